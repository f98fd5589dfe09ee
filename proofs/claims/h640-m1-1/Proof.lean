import JvmDerived
import JvmDerived.Pilot.@@N@@Statement
import JvmDerived.Pilot.@@N@@Code
set_option linter.unusedVariables false
set_option linter.unusedSimpArgs false
namespace Jvm.Pilot.@@N@@
open Jvm Jvm.ClassFile Sem Op Lib Jvm.Free Jvm.Stand Jvm.LawKit Jvm.RoadKit Bundle Jvm.Pilot.@@N@@.Jvm.D
section OwnKit
variable {p : Program} {l : Launch} {e : Env} {R : Room} {s : State} {m : MethodId} {args : Array Value} {below : List Frame} {meth : Method} {c : Code} {T : State} {locs : List Loc} {cells slots kc ks : Nat} {Z : State} {a0 : Array Value} {own nm : String} {bytes : ByteArray} {ml : Nat} {ret : Option FieldType} {Q : Option Value → Heap → Prop} {h h' : Heap} {pc pc' : Nat} {ls ls' : Array Slot} {st st' rest : List Value}
/-- what is left to show where the run stands at S -/
def OGoal (p : Program) (e : Env) (below : List Frame) (s : State) (kc ks n0 : Nat) (Q : Option Value → Heap → Prop) (S : State) : Prop :=
  ∃ s₂ o, Steps p.tables e below S s₂ ∧ s₂.status = .running ∧ Ended s₂ below o ∧ ∃ v L, o = .returned v ∧ ((Q v s₂.heap ∧ s.heap.size ≤ s₂.heap.size) ∧ Fr n0 L) ∧ FrameEnd s o s₂ L kc ks
theorem OGoal.via {n0 : Nat} {S S' : State} (hs : ∀ t, Steps p.tables e below S' t → Steps p.tables e below S t) (g : OGoal p e below s kc ks n0 Q S') : OGoal p e below s kc ks n0 Q S := by
  obtain ⟨s2, o, h1, r⟩ := g
  exact ⟨s2, o, hs _ h1, r⟩
/-- what holds throughout a body -/
def OCtx (p : Program) (s : State) (m : MethodId) (meth : Method) (c : Code) (Z : State) (own nm : String) (bytes : ByteArray) (ml : Nat) (ret : Option FieldType) : Prop :=
  p.tables.exec = Jvm.exec ∧ Z.Warmed39 s.vm ∧ s.vm.findClass own = some m.cls ∧ c.code = bytes ∧ c.maxLocals = ml ∧ meth.sig.returnType = ret ∧ meth.locks = false ∧ meth.name = nm ∧ Ext Z.heap s.heap
/-- from every state with the heap h whose top frame is g the body comes to its end -/
def OG (p : Program) (l : Launch) (e : Env) (R : Room) (s : State) (m : MethodId) (args : Array Value) (below : List Frame) (meth : Method) (c : Code) (Z : State) (own nm : String) (bytes : ByteArray) (ml : Nat) (ret : Option FieldType) (Q : Option Value → Heap → Prop) (kc ks : Nat) (h : Heap) (cells slots : Nat) (g : JFrame) : Prop :=
  OCtx p s m meth c Z own nm bytes ml ret → ∀ T locs, Stand p l e R s m args below meth c T locs cells slots → T.heap = h → Fr Z.heap.size locs → OGoal p e below s kc ks Z.heap.size Q (T.setTop g)
theorem own_ext (X : Stand p l e R s m args below meth c T locs cells slots) (E : Ext Z.heap s.heap) (N : Fr Z.heap.size locs) : Ext Z.heap T.heap := by
  have q := X.same
  refine ⟨Nat.le_trans E.1 q.2.1, fun a cl hc => ?_⟩
  obtain ⟨c', h1, h2, h3, h4⟩ := q.2.2.2.2.2 a cl (E.2 a cl hc)
  have ha : a < Z.heap.size := (Array.getElem?_eq_some_iff.mp hc).1
  have e1 : c'.slots = cl.slots := Array.ext_getElem? fun i => h4 i fun hm => absurd (N _ hm) (Nat.not_le.mpr ha)
  rw [e1] at h2
  have e2 : c' = cl := h2
  rw [← e2]
  exact h1
/-- the contract of a body, at its arguments and heap -/
def OCtr (l : Launch) (Z : State) (y : MethodName) (yb : ByteArray) (yl : Nat) (yr : Option FieldType) (rm : Room) (as' : Array Value) (h0 : Heap) (yQ : Option Value → Heap → Prop) : Prop :=
  ∀ ws : List Jvm.Cond, MetFree l y (head1 (Jvm.Cond.code y yb yl yr :: ws) rm) (fun a U => a = as' ∧ Z.Warmed39 U.vm ∧ U.heap = h0) (fun _ _ _ _ _ => True) (fun _ U o U' => ∃ v L, o = .returned v ∧ ((yQ v U'.heap ∧ h0.size ≤ U'.heap.size) ∧ Fr Z.heap.size L) ∧ FrameEnd U o U' L rm.cells rm.slots)
theorem o_body {y : MethodName} {yb : ByteArray} {yl : Nat} {yr : Option FieldType} {rm : Room} {as' : Array Value} {h0 : Heap} {yQ : Option Value → Heap → Prop} {ls0 : Array Slot} (hpl : plainFor y = true) (hE : Ext Z.heap h0)
    (hef : ∀ m : MethodId, entryFrame m as' yl = mkF m 0 ls0 [])
    (k : ∀ (p : Program) (e : Env) (s : State) (m : MethodId) (below : List Frame) (meth : Method) (c : Code), OG p l e rm s m as' below meth c Z y.cls y.name yb yl yr yQ rm.cells rm.slots h0 0 0 (mkF m 0 ls0 [])) : OCtr l Z y yb yl yr rm as' h0 yQ := by
  intro ws
  refine MetFree.of_bodySF hpl hisR ?_
  intro p e s m args below meth c s₁ Bd hml0 hP hK
  obtain ⟨rfl, hZ, hh⟩ := hP
  have X0 : Stand p l e rm s m args below meth c s₁ [] 0 0 := Stand.of_body Bd
  have e0 : s₁.heap = h0 := by rw [← hh, Bd.state]; rfl
  have g := k p e s m below meth c ⟨Bd.exec, hZ, findClass_of_methodNamed Bd.named, Bd.bytes, hml0, Bd.returns, Bd.notSynchronized, (name_of_methodNamed Bd.named Bd.method).1, by rw [hh]; exact hE⟩ s₁ [] X0 e0 (Fr.nil _)
  rw [hef]
  rw [← hh]
  exact g
/-- a single step that leaves the heap -/
theorem o_pure {n : Nat} {i : Instr} (hd : decode bytes pc = .ok (i, n)) (hs : ∀ (T : State) (locs : List Loc), Stand p l e R s m args below meth c T locs cells slots → p.tables.exec = Jvm.exec → decode c.code pc = .ok (i, n) → ∀ t, Steps p.tables e below (T.setTop (mkF m pc' ls' st')) t → Steps p.tables e below (T.setTop (mkF m pc ls st)) t)
    (k : OG p l e R s m args below meth c Z own nm bytes ml ret Q kc ks h cells slots (mkF m pc' ls' st')) : OG p l e R s m args below meth c Z own nm bytes ml ret Q kc ks h cells slots (mkF m pc ls st) := by
  intro C T locs X eT N
  exact OGoal.via (hs T locs X C.1 (hb C.2.2.2.1 hd)) (k C T locs X eT N)
/-! pure instructions, as one function -/
def oBI (f : Int32 → Int32 → Int32) (st : List Value) (ls : Array Slot) : Option (List Value × Array Slot) :=
  match st with
  | .int y :: .int x :: r => some (.int (f x y) :: r, ls)
  | _ => none
def oBL (f : Int64 → Int64 → Int64) (st : List Value) (ls : Array Slot) : Option (List Value × Array Slot) :=
  match st with
  | .long y :: .long x :: r => some (.long (f x y) :: r, ls)
  | _ => none
def oBLI (f : Int64 → Int32 → Int64) (st : List Value) (ls : Array Slot) : Option (List Value × Array Slot) :=
  match st with
  | .int y :: .long x :: r => some (.long (f x y) :: r, ls)
  | _ => none
def oUI (f : Int32 → Int32) (st : List Value) (ls : Array Slot) : Option (List Value × Array Slot) :=
  match st with
  | .int x :: r => some (.int (f x) :: r, ls)
  | _ => none
def oLdI (k : Nat) (st : List Value) (ls : Array Slot) : Option (List Value × Array Slot) :=
  match ls[k]? with
  | some (.val (.int v)) => some (.int v :: st, ls)
  | _ => none
def oLdL (k : Nat) (st : List Value) (ls : Array Slot) : Option (List Value × Array Slot) :=
  match ls[k]? with
  | some (.val (.long v)) => some (.long v :: st, ls)
  | _ => none
def oLdA (k : Nat) (st : List Value) (ls : Array Slot) : Option (List Value × Array Slot) :=
  match ls[k]? with
  | some (.val (.ref v)) => some (.ref v :: st, ls)
  | some (.val .null) => some (.null :: st, ls)
  | _ => none
def oStI (k : Nat) (st : List Value) (ls : Array Slot) : Option (List Value × Array Slot) :=
  match st with
  | .int v :: r => (storeLocals ls k (.int v)).map fun l' => (r, l')
  | _ => none
def oStL (k : Nat) (st : List Value) (ls : Array Slot) : Option (List Value × Array Slot) :=
  match st with
  | .long v :: r => (storeLocals ls k (.long v)).map fun l' => (r, l')
  | _ => none
def oStA (k : Nat) (st : List Value) (ls : Array Slot) : Option (List Value × Array Slot) :=
  match st with
  | .ref v :: r => (storeLocals ls k (.ref v)).map fun l' => (r, l')
  | .null :: r => (storeLocals ls k .null).map fun l' => (r, l')
  | _ => none
def oInc (k : Nat) (q : Int) (st : List Value) (ls : Array Slot) : Option (List Value × Array Slot) :=
  match ls[k]? with
  | some (.val (.int v)) => (storeLocals ls k (.int (v + Int32.ofInt q))).map fun l' => (st, l')
  | _ => none
def oI2L (st : List Value) (ls : Array Slot) : Option (List Value × Array Slot) :=
  match st with
  | .int x :: r => some (.long x.toInt64 :: r, ls)
  | _ => none
def oL2I (st : List Value) (ls : Array Slot) : Option (List Value × Array Slot) :=
  match st with
  | .long x :: r => some (.int x.toInt32 :: r, ls)
  | _ => none
def oCmp (st : List Value) (ls : Array Slot) : Option (List Value × Array Slot) :=
  match st with
  | .long y :: .long x :: r => some (.int (XT.cmpL x y) :: r, ls)
  | _ => none
def oDup (st : List Value) (ls : Array Slot) : Option (List Value × Array Slot) :=
  match st with
  | .int x :: r => some (.int x :: .int x :: r, ls)
  | .ref x :: r => some (.ref x :: .ref x :: r, ls)
  | _ => none
def oPop (st : List Value) (ls : Array Slot) : Option (List Value × Array Slot) :=
  match st with
  | .int _ :: r => some (r, ls)
  | .ref _ :: r => some (r, ls)
  | .null :: r => some (r, ls)
  | _ => none
def oLen : Instr → Nat
  | .iload _ | .lload _ | .aload _ | .istore _ | .lstore _ | .astore _ | .bipush _ => 2
  | .sipush _ | .iinc _ _ => 3
  | _ => 1
def opS (i : Instr) (st : List Value) (ls : Array Slot) : Option (List Value × Array Slot) :=
  match i with
  | .iconst k => some (.int (Int32.ofInt k) :: st, ls)
  | .bipush k => some (.int (Int8.ofInt k).toInt32 :: st, ls)
  | .sipush k => some (.int (Int16.ofInt k).toInt32 :: st, ls)
  | .lconst k => some (.long (Int64.ofNat k) :: st, ls)
  | .aconst_null => some (.null :: st, ls)
  | .iload k => oLdI k st ls
  | .iload_n k => oLdI k.val st ls
  | .lload k => oLdL k st ls
  | .lload_n k => oLdL k.val st ls
  | .aload k => oLdA k st ls
  | .aload_n k => oLdA k.val st ls
  | .istore k => oStI k st ls
  | .istore_n k => oStI k.val st ls
  | .lstore k => oStL k st ls
  | .lstore_n k => oStL k.val st ls
  | .astore k => oStA k st ls
  | .astore_n k => oStA k.val st ls
  | .iinc k q => oInc k q st ls
  | .iadd => oBI (fun x y => x + y) st ls
  | .isub => oBI (fun x y => x - y) st ls
  | .imul => oBI (fun x y => x * y) st ls
  | .iand => oBI (fun x y => x &&& y) st ls
  | .ior => oBI (fun x y => x ||| y) st ls
  | .ixor => oBI (fun x y => x ^^^ y) st ls
  | .ishl => oBI (fun x y => x <<< (y &&& 31)) st ls
  | .ishr => oBI (fun x y => x >>> (y &&& 31)) st ls
  | .iushr => oBI (fun x y => XT.ushr x y) st ls
  | .ladd => oBL (fun x y => x + y) st ls
  | .lsub => oBL (fun x y => x - y) st ls
  | .lmul => oBL (fun x y => x * y) st ls
  | .land => oBL (fun x y => x &&& y) st ls
  | .lor => oBL (fun x y => x ||| y) st ls
  | .lxor => oBL (fun x y => x ^^^ y) st ls
  | .lshl => oBLI (fun x y => x <<< (y.toInt64 &&& 63)) st ls
  | .lshr => oBLI (fun x y => x >>> (y.toInt64 &&& 63)) st ls
  | .lushr => oBLI (fun x y => XT.ushrL x y) st ls
  | .i2b => oUI (fun x => x.toInt8.toInt32) st ls
  | .i2c => oUI (fun x => x.toUInt32.toUInt16.toUInt32.toInt32) st ls
  | .i2s => oUI (fun x => x.toInt16.toInt32) st ls
  | .ineg => oUI (fun x => -x) st ls
  | .i2l => oI2L st ls
  | .l2i => oL2I st ls
  | .lcmp => oCmp st ls
  | .dup => oDup st ls
  | .pop => oPop st ls
  | _ => none
/-- the instructions from pc on, one behind the other; what stands behind them -/
def oBlk (code : ByteArray) : Nat → List Instr → Option Nat
  | pc, [] => some pc
  | pc, i :: is => if decode code pc = .ok (i, oLen i) then oBlk code (pc + oLen i) is else none
def oRun : List Instr → List Value → Array Slot → Option (List Value × Array Slot)
  | [], st, ls => some (st, ls)
  | i :: is, st, ls => match opS i st ls with
    | some (st', ls') => oRun is st' ls'
    | none => none
theorem oBI_inv {f : Int32 → Int32 → Int32} {r : List Value × Array Slot} (q : oBI f st ls = some r) : ∃ x y t, st = .int y :: .int x :: t ∧ r = (.int (f x y) :: t, ls) := by
  unfold oBI at q
  split at q
  · exact ⟨_, _, _, rfl, (Option.some.inj q).symm⟩
  · cases q
theorem oBL_inv {f : Int64 → Int64 → Int64} {r : List Value × Array Slot} (q : oBL f st ls = some r) : ∃ x y t, st = .long y :: .long x :: t ∧ r = (.long (f x y) :: t, ls) := by
  unfold oBL at q
  split at q
  · exact ⟨_, _, _, rfl, (Option.some.inj q).symm⟩
  · cases q
theorem oBLI_inv {f : Int64 → Int32 → Int64} {r : List Value × Array Slot} (q : oBLI f st ls = some r) : ∃ x y t, st = .int y :: .long x :: t ∧ r = (.long (f x y) :: t, ls) := by
  unfold oBLI at q
  split at q
  · exact ⟨_, _, _, rfl, (Option.some.inj q).symm⟩
  · cases q
theorem oUI_inv {f : Int32 → Int32} {r : List Value × Array Slot} (q : oUI f st ls = some r) : ∃ x t, st = .int x :: t ∧ r = (.int (f x) :: t, ls) := by
  unfold oUI at q
  split at q
  · exact ⟨_, _, rfl, (Option.some.inj q).symm⟩
  · cases q
theorem oLdI_inv {k : Nat} {r : List Value × Array Slot} (q : oLdI k st ls = some r) : ∃ v, ls[k]? = some (.val (.int v)) ∧ r = (.int v :: st, ls) := by
  unfold oLdI at q
  split at q
  · next v hv => exact ⟨v, hv, (Option.some.inj q).symm⟩
  · cases q
theorem oLdL_inv {k : Nat} {r : List Value × Array Slot} (q : oLdL k st ls = some r) : ∃ v, ls[k]? = some (.val (.long v)) ∧ r = (.long v :: st, ls) := by
  unfold oLdL at q
  split at q
  · next v hv => exact ⟨v, hv, (Option.some.inj q).symm⟩
  · cases q
theorem oLdA_inv {k : Nat} {r : List Value × Array Slot} (q : oLdA k st ls = some r) : ∃ v, ls[k]? = some (.val v) ∧ v.isRef = true ∧ r = (v :: st, ls) := by
  unfold oLdA at q
  split at q
  · next v hv => exact ⟨.ref v, hv, rfl, (Option.some.inj q).symm⟩
  · next hv => exact ⟨.null, hv, rfl, (Option.some.inj q).symm⟩
  · cases q
theorem own_map {o : Option (Array Slot)} {t : List Value} {r : List Value × Array Slot} (q : o.map (fun l' => (t, l')) = some r) : ∃ l', o = some l' ∧ r = (t, l') := by
  cases o with
  | none => cases q
  | some l' => exact ⟨l', rfl, (Option.some.inj q).symm⟩
theorem oStI_inv {k : Nat} {r : List Value × Array Slot} (q : oStI k st ls = some r) : ∃ v t l', st = .int v :: t ∧ storeLocals ls k (.int v) = some l' ∧ r = (t, l') := by
  unfold oStI at q
  split at q
  · obtain ⟨l', h1, h2⟩ := own_map q; exact ⟨_, _, l', rfl, h1, h2⟩
  · cases q
theorem oStL_inv {k : Nat} {r : List Value × Array Slot} (q : oStL k st ls = some r) : ∃ v t l', st = .long v :: t ∧ storeLocals ls k (.long v) = some l' ∧ r = (t, l') := by
  unfold oStL at q
  split at q
  · obtain ⟨l', h1, h2⟩ := own_map q; exact ⟨_, _, l', rfl, h1, h2⟩
  · cases q
theorem oStA_inv {k : Nat} {r : List Value × Array Slot} (q : oStA k st ls = some r) : ∃ v t l', st = v :: t ∧ v.isRef = true ∧ storeLocals ls k v = some l' ∧ r = (t, l') := by
  unfold oStA at q
  split at q
  · obtain ⟨l', h1, h2⟩ := own_map q; exact ⟨_, _, l', rfl, rfl, h1, h2⟩
  · obtain ⟨l', h1, h2⟩ := own_map q; exact ⟨_, _, l', rfl, rfl, h1, h2⟩
  · cases q
theorem oInc_inv {k : Nat} {z : Int} {r : List Value × Array Slot} (q : oInc k z st ls = some r) : ∃ v l', ls[k]? = some (.val (.int v)) ∧ storeLocals ls k (.int (v + Int32.ofInt z)) = some l' ∧ r = (st, l') := by
  unfold oInc at q
  split at q
  · next v hv => obtain ⟨l', h1, h2⟩ := own_map q; exact ⟨v, l', hv, h1, h2⟩
  · cases q
theorem oI2L_inv {r : List Value × Array Slot} (q : oI2L st ls = some r) : ∃ x t, st = .int x :: t ∧ r = (.long x.toInt64 :: t, ls) := by
  unfold oI2L at q
  split at q
  · exact ⟨_, _, rfl, (Option.some.inj q).symm⟩
  · cases q
theorem oL2I_inv {r : List Value × Array Slot} (q : oL2I st ls = some r) : ∃ x t, st = .long x :: t ∧ r = (.int x.toInt32 :: t, ls) := by
  unfold oL2I at q
  split at q
  · exact ⟨_, _, rfl, (Option.some.inj q).symm⟩
  · cases q
theorem oCmp_inv {r : List Value × Array Slot} (q : oCmp st ls = some r) : ∃ x y t, st = .long y :: .long x :: t ∧ r = (.int (XT.cmpL x y) :: t, ls) := by
  unfold oCmp at q
  split at q
  · exact ⟨_, _, _, rfl, (Option.some.inj q).symm⟩
  · cases q
theorem oDup_inv {r : List Value × Array Slot} (q : oDup st ls = some r) : ∃ x t, st = x :: t ∧ x.category = 1 ∧ r = (x :: x :: t, ls) := by
  unfold oDup at q
  split at q
  · exact ⟨_, _, rfl, rfl, (Option.some.inj q).symm⟩
  · exact ⟨_, _, rfl, rfl, (Option.some.inj q).symm⟩
  · cases q
theorem oPop_inv {r : List Value × Array Slot} (q : oPop st ls = some r) : ∃ x t, st = x :: t ∧ x.category = 1 ∧ r = (t, ls) := by
  unfold oPop at q
  split at q
  · exact ⟨_, _, rfl, rfl, (Option.some.inj q).symm⟩
  · exact ⟨_, _, rfl, rfl, (Option.some.inj q).symm⟩
  · exact ⟨_, _, rfl, rfl, (Option.some.inj q).symm⟩
  · cases q
theorem o_op {i : Instr} (hd : decode bytes pc = .ok (i, oLen i)) (q : opS i st ls = some (st', ls'))
    (k : OG p l e R s m args below meth c Z own nm bytes ml ret Q kc ks h cells slots (mkF m (pc + oLen i) ls' st')) : OG p l e R s m args below meth c Z own nm bytes ml ret Q kc ks h cells slots (mkF m pc ls st) := by
  refine o_pure hd (fun T locs X hx hd t kk => ?_) k
  cases i with
  | iconst z => cases q; exact XS.iconst X.here hx rfl hd kk
  | bipush z => cases q; exact XS.bipush X.here hx rfl hd kk
  | sipush z => cases q; exact XS.sipush X.here hx rfl hd kk
  | lconst z => cases q; exact XT.lconst X.here hx rfl hd kk
  | aconst_null => cases q; exact XS.aconstNull X.here hx rfl hd kk
  | iload z => obtain ⟨v, h1, h3⟩ := oLdI_inv q; cases h3; exact XS.iload X.here hx rfl hd h1 kk
  | iload_n z => obtain ⟨v, h1, h3⟩ := oLdI_inv q; cases h3; exact XS.iloadN X.here hx rfl hd h1 kk
  | lload z => obtain ⟨v, h1, h3⟩ := oLdL_inv q; cases h3; exact XT.lload X.here hx rfl hd h1 kk
  | lload_n z => obtain ⟨v, h1, h3⟩ := oLdL_inv q; cases h3; exact XT.lloadN X.here hx rfl hd h1 kk
  | aload z => obtain ⟨v, h1, h2, h3⟩ := oLdA_inv q; cases h3; exact XS.aload X.here hx rfl hd h1 h2 kk
  | aload_n z => obtain ⟨v, h1, h2, h3⟩ := oLdA_inv q; cases h3; exact XS.aloadN X.here hx rfl hd h1 h2 kk
  | istore z => obtain ⟨v, r, l', rfl, h2, h3⟩ := oStI_inv q; cases h3; exact XS.istore X.here hx rfl hd rfl h2 kk
  | istore_n z => obtain ⟨v, r, l', rfl, h2, h3⟩ := oStI_inv q; cases h3; exact XS.istoreN X.here hx rfl hd rfl h2 kk
  | lstore z => obtain ⟨v, r, l', rfl, h2, h3⟩ := oStL_inv q; cases h3; exact XT.lstore X.here hx rfl hd rfl h2 kk
  | lstore_n z => obtain ⟨v, r, l', rfl, h2, h3⟩ := oStL_inv q; cases h3; exact XT.lstoreN X.here hx rfl hd rfl h2 kk
  | astore z => obtain ⟨v, r, l', rfl, h1, h2, h3⟩ := oStA_inv q; cases h3; exact XS.astore X.here hx rfl hd rfl h1 h2 kk
  | astore_n z => obtain ⟨v, r, l', rfl, h1, h2, h3⟩ := oStA_inv q; cases h3; exact XS.astoreN X.here hx rfl hd rfl h1 h2 kk
  | iinc z y => obtain ⟨v, l', h1, h2, h3⟩ := oInc_inv q; cases h3; exact XS.iinc X.here hx rfl hd h1 h2 kk
  | iadd => obtain ⟨x, y, r, rfl, h3⟩ := oBI_inv q; cases h3; exact XS.iadd X.here hx rfl hd rfl kk
  | isub => obtain ⟨x, y, r, rfl, h3⟩ := oBI_inv q; cases h3; exact XS.isub X.here hx rfl hd rfl kk
  | imul => obtain ⟨x, y, r, rfl, h3⟩ := oBI_inv q; cases h3; exact XS.imul X.here hx rfl hd rfl kk
  | iand => obtain ⟨x, y, r, rfl, h3⟩ := oBI_inv q; cases h3; exact XS.iand X.here hx rfl hd rfl kk
  | ior => obtain ⟨x, y, r, rfl, h3⟩ := oBI_inv q; cases h3; exact XT.ior X.here hx rfl hd rfl kk
  | ixor => obtain ⟨x, y, r, rfl, h3⟩ := oBI_inv q; cases h3; exact XT.ixor X.here hx rfl hd rfl kk
  | ishl => obtain ⟨x, y, r, rfl, h3⟩ := oBI_inv q; cases h3; exact XT.ishl X.here hx rfl hd rfl kk
  | ishr => obtain ⟨x, y, r, rfl, h3⟩ := oBI_inv q; cases h3; exact XT.ishr X.here hx rfl hd rfl kk
  | iushr => obtain ⟨x, y, r, rfl, h3⟩ := oBI_inv q; cases h3; exact XT.iushr X.here hx rfl hd rfl kk
  | ladd => obtain ⟨x, y, r, rfl, h3⟩ := oBL_inv q; cases h3; exact XT.ladd X.here hx rfl hd rfl kk
  | lsub => obtain ⟨x, y, r, rfl, h3⟩ := oBL_inv q; cases h3; exact XT.lsub X.here hx rfl hd rfl kk
  | lmul => obtain ⟨x, y, r, rfl, h3⟩ := oBL_inv q; cases h3; exact XT.lmul X.here hx rfl hd rfl kk
  | land => obtain ⟨x, y, r, rfl, h3⟩ := oBL_inv q; cases h3; exact XT.land X.here hx rfl hd rfl kk
  | lor => obtain ⟨x, y, r, rfl, h3⟩ := oBL_inv q; cases h3; exact XT.lor X.here hx rfl hd rfl kk
  | lxor => obtain ⟨x, y, r, rfl, h3⟩ := oBL_inv q; cases h3; exact XT.lxor X.here hx rfl hd rfl kk
  | lshl => obtain ⟨x, y, r, rfl, h3⟩ := oBLI_inv q; cases h3; exact XT.lshl X.here hx rfl hd rfl kk
  | lshr => obtain ⟨x, y, r, rfl, h3⟩ := oBLI_inv q; cases h3; exact XT.lshr X.here hx rfl hd rfl kk
  | lushr => obtain ⟨x, y, r, rfl, h3⟩ := oBLI_inv q; cases h3; exact XT.lushr X.here hx rfl hd rfl kk
  | i2b => obtain ⟨x, r, rfl, h3⟩ := oUI_inv q; cases h3; exact XT.i2b X.here hx rfl hd rfl kk
  | i2c => obtain ⟨x, r, rfl, h3⟩ := oUI_inv q; cases h3; exact XT.i2c X.here hx rfl hd rfl kk
  | i2s => obtain ⟨x, r, rfl, h3⟩ := oUI_inv q; cases h3; exact XT.i2s X.here hx rfl hd rfl kk
  | ineg => obtain ⟨x, r, rfl, h3⟩ := oUI_inv q; cases h3; exact XS.ineg X.here hx rfl hd rfl kk
  | i2l => obtain ⟨x, r, rfl, h3⟩ := oI2L_inv q; cases h3; exact XT.i2l X.here hx rfl hd rfl kk
  | l2i => obtain ⟨x, r, rfl, h3⟩ := oL2I_inv q; cases h3; exact XT.l2i X.here hx rfl hd rfl kk
  | lcmp => obtain ⟨x, y, r, rfl, h3⟩ := oCmp_inv q; cases h3; exact XT.lcmp X.here hx rfl hd rfl kk
  | dup => obtain ⟨x, r, rfl, hc, h3⟩ := oDup_inv q; cases h3; exact XS.dup X.here hx rfl hd rfl hc kk
  | pop => obtain ⟨x, r, rfl, hc, h3⟩ := oPop_inv q; cases h3; exact XT.pop X.here hx rfl hd rfl hc kk
  | _ => cases q
theorem o_blk : ∀ {is : List Instr} {pc : Nat} {st : List Value} {ls : Array Slot}, oBlk bytes pc is = some pc' → oRun is st ls = some (st', ls') →
    OG p l e R s m args below meth c Z own nm bytes ml ret Q kc ks h cells slots (mkF m pc' ls' st') → OG p l e R s m args below meth c Z own nm bytes ml ret Q kc ks h cells slots (mkF m pc ls st)
  | [], pc, st, ls, hb, hr, k => by
    cases hb; cases hr; exact k
  | i :: is, pc, st, ls, hb, hr, k => by
    unfold oBlk at hb
    split at hb
    · next hd =>
      unfold oRun at hr
      split at hr
      · next st1 ls1 hq => exact o_op hd hq (o_blk hb hr k)
      · cases hr
    · cases hb
/-! branches -/
def oC : ClassFile.Cond → Int32 → Int32 → Prop
  | .eq, x, y => x = y
  | .ne, x, y => ¬ x = y
  | .lt, x, y => x < y
  | .ge, x, y => ¬ x < y
  | .gt, x, y => y < x
  | .le, x, y => ¬ y < x
def oCn : ClassFile.Cond → Int32 → Int32 → Prop
  | .eq, x, y => ¬ x = y
  | .ne, x, y => x = y
  | .lt, x, y => ¬ x < y
  | .ge, x, y => x < y
  | .gt, x, y => ¬ y < x
  | .le, x, y => y < x
theorem oC_yes {cd : ClassFile.Cond} {x y : Int32} (q : oC cd x y) : if_icmp.holds cd x y = true := by
  cases cd
  · exact (teq q).1
  · exact (feq q).2
  · exact (tlt q).1
  · exact (flt q).2.1
  · exact (tlt q).2.2.1
  · exact (flt q).2.2.2
theorem oC_no {cd : ClassFile.Cond} {x y : Int32} (q : oCn cd x y) : if_icmp.holds cd x y = false := by
  cases cd
  · exact (feq q).1
  · exact (teq q).2
  · exact (flt q).1
  · exact (tlt q).2.1
  · exact (flt q).2.2.1
  · exact (tlt q).2.2.2
theorem oC_or (cd : ClassFile.Cond) (x y : Int32) : oC cd x y ∨ oCn cd x y := by
  cases cd
  · exact Classical.em _
  · exact (Classical.em (x = y)).symm
  · exact Classical.em _
  · exact (Classical.em (x < y)).symm
  · exact Classical.em _
  · exact (Classical.em (y < x)).symm
theorem o_ifY {cd : ClassFile.Cond} {o : Int} {x : Int32} (hd : decode bytes pc = .ok (.ifCond cd o, 3)) (ho : 0 ≤ (pc : Int) + o) (hp : ((pc : Int) + o).toNat = pc') (hc : oC cd x 0)
    (k : OG p l e R s m args below meth c Z own nm bytes ml ret Q kc ks h cells slots (mkF m pc' ls rest)) : OG p l e R s m args below meth c Z own nm bytes ml ret Q kc ks h cells slots (mkF m pc ls (.int x :: rest)) :=
  o_pure hd (fun T locs X hx hd t kk => XS.ifYes X.here hx rfl (pc0 := pc) rfl hd rfl (by rw [if0]; exact oC_yes hc) ho hp kk) k
theorem o_ifN {cd : ClassFile.Cond} {o : Int} {x : Int32} (hd : decode bytes pc = .ok (.ifCond cd o, 3)) (hp : pc + 3 = pc') (hc : oCn cd x 0)
    (k : OG p l e R s m args below meth c Z own nm bytes ml ret Q kc ks h cells slots (mkF m pc' ls rest)) : OG p l e R s m args below meth c Z own nm bytes ml ret Q kc ks h cells slots (mkF m pc ls (.int x :: rest)) :=
  o_pure hd (fun T locs X hx hd t kk => XS.ifNo X.here hx rfl hd rfl (by rw [if0]; exact oC_no hc) (by subst hp; exact kk)) k
theorem o_if {cd : ClassFile.Cond} {o : Int} {x : Int32} {pc'' : Nat} (hd : decode bytes pc = .ok (.ifCond cd o, 3)) (ho : 0 ≤ (pc : Int) + o) (hp : ((pc : Int) + o).toNat = pc') (hp' : pc + 3 = pc'')
    (ky : oC cd x 0 → OG p l e R s m args below meth c Z own nm bytes ml ret Q kc ks h cells slots (mkF m pc' ls rest)) (kn : oCn cd x 0 → OG p l e R s m args below meth c Z own nm bytes ml ret Q kc ks h cells slots (mkF m pc'' ls rest)) : OG p l e R s m args below meth c Z own nm bytes ml ret Q kc ks h cells slots (mkF m pc ls (.int x :: rest)) :=
  (oC_or cd x 0).elim (fun q => o_ifY hd ho hp q (ky q)) (fun q => o_ifN hd hp' q (kn q))
theorem o_icY {cd : ClassFile.Cond} {o : Int} {x y : Int32} (hd : decode bytes pc = .ok (.if_icmp cd o, 3)) (ho : 0 ≤ (pc : Int) + o) (hp : ((pc : Int) + o).toNat = pc') (hc : oC cd x y)
    (k : OG p l e R s m args below meth c Z own nm bytes ml ret Q kc ks h cells slots (mkF m pc' ls rest)) : OG p l e R s m args below meth c Z own nm bytes ml ret Q kc ks h cells slots (mkF m pc ls (.int y :: .int x :: rest)) :=
  o_pure hd (fun T locs X hx hd t kk => XS.icmpYes X.here hx rfl (pc0 := pc) rfl hd rfl (oC_yes hc) ho hp kk) k
theorem o_icN {cd : ClassFile.Cond} {o : Int} {x y : Int32} (hd : decode bytes pc = .ok (.if_icmp cd o, 3)) (hp : pc + 3 = pc') (hc : oCn cd x y)
    (k : OG p l e R s m args below meth c Z own nm bytes ml ret Q kc ks h cells slots (mkF m pc' ls rest)) : OG p l e R s m args below meth c Z own nm bytes ml ret Q kc ks h cells slots (mkF m pc ls (.int y :: .int x :: rest)) :=
  o_pure hd (fun T locs X hx hd t kk => XS.icmpNo X.here hx rfl hd rfl (oC_no hc) (by subst hp; exact kk)) k
theorem o_ic {cd : ClassFile.Cond} {o : Int} {x y : Int32} {pc'' : Nat} (hd : decode bytes pc = .ok (.if_icmp cd o, 3)) (ho : 0 ≤ (pc : Int) + o) (hp : ((pc : Int) + o).toNat = pc') (hp' : pc + 3 = pc'')
    (ky : oC cd x y → OG p l e R s m args below meth c Z own nm bytes ml ret Q kc ks h cells slots (mkF m pc' ls rest)) (kn : oCn cd x y → OG p l e R s m args below meth c Z own nm bytes ml ret Q kc ks h cells slots (mkF m pc'' ls rest)) : OG p l e R s m args below meth c Z own nm bytes ml ret Q kc ks h cells slots (mkF m pc ls (.int y :: .int x :: rest)) :=
  (oC_or cd x y).elim (fun q => o_icY hd ho hp q (ky q)) (fun q => o_icN hd hp' q (kn q))
def oA : ClassFile.ACond → Value → Value → Prop
  | .eq, x, y => x = y
  | .ne, x, y => ¬ x = y
def oAn : ClassFile.ACond → Value → Value → Prop
  | .eq, x, y => ¬ x = y
  | .ne, x, y => x = y
theorem o_acY {cd : ClassFile.ACond} {o : Int} {x y : Value} (hd : decode bytes pc = .ok (.if_acmp cd o, 3)) (hx' : x.isRef = true) (hy' : y.isRef = true) (ho : 0 ≤ (pc : Int) + o) (hp : ((pc : Int) + o).toNat = pc') (hc : oA cd x y)
    (k : OG p l e R s m args below meth c Z own nm bytes ml ret Q kc ks h cells slots (mkF m pc' ls rest)) : OG p l e R s m args below meth c Z own nm bytes ml ret Q kc ks h cells slots (mkF m pc ls (y :: x :: rest)) :=
  o_pure hd (fun T locs X hx hd t kk => XT.acmpYes X.here hx rfl (pc0 := pc) rfl hd rfl hx' hy' (by cases cd <;> exact decide_eq_true hc) ho hp kk) k
theorem o_acN {cd : ClassFile.ACond} {o : Int} {x y : Value} (hd : decode bytes pc = .ok (.if_acmp cd o, 3)) (hx' : x.isRef = true) (hy' : y.isRef = true) (hp : pc + 3 = pc') (hc : oAn cd x y)
    (k : OG p l e R s m args below meth c Z own nm bytes ml ret Q kc ks h cells slots (mkF m pc' ls rest)) : OG p l e R s m args below meth c Z own nm bytes ml ret Q kc ks h cells slots (mkF m pc ls (y :: x :: rest)) :=
  o_pure hd (fun T locs X hx hd t kk => XT.acmpNo X.here hx rfl hd rfl hx' hy' (by cases cd <;> first | exact decide_eq_false hc | exact decide_eq_false (fun q => q hc)) (by subst hp; exact kk)) k
theorem o_goto {o : Int} (hd : decode bytes pc = .ok (.goto o, 3)) (ho : 0 ≤ (pc : Int) + o) (hp : ((pc : Int) + o).toNat = pc')
    (k : OG p l e R s m args below meth c Z own nm bytes ml ret Q kc ks h cells slots (mkF m pc' ls st)) : OG p l e R s m args below meth c Z own nm bytes ml ret Q kc ks h cells slots (mkF m pc ls st) :=
  o_pure hd (fun T locs X hx hd t kk => XS.goto X.here hx rfl (pc0 := pc) rfl hd ho hp kk) k
theorem o_irem {x y : Int32} (hd : decode bytes pc = .ok (.irem, 1)) (hy : y ≠ 0) (hp : pc + 1 = pc')
    (k : OG p l e R s m args below meth c Z own nm bytes ml ret Q kc ks h cells slots (mkF m pc' ls (.int (x % y) :: rest))) : OG p l e R s m args below meth c Z own nm bytes ml ret Q kc ks h cells slots (mkF m pc ls (.int y :: .int x :: rest)) :=
  o_pure hd (fun T locs X hx hd t kk => iremM X hx rfl hd rfl hy (by subst hp; exact kk)) k
theorem o_idiv {x y : Int32} (hd : decode bytes pc = .ok (.idiv, 1)) (hy : y ≠ 0) (hp : pc + 1 = pc')
    (k : OG p l e R s m args below meth c Z own nm bytes ml ret Q kc ks h cells slots (mkF m pc' ls (.int (x / y) :: rest))) : OG p l e R s m args below meth c Z own nm bytes ml ret Q kc ks h cells slots (mkF m pc ls (.int y :: .int x :: rest)) :=
  o_pure hd (fun T locs X hx hd t kk => XS.idiv X.here hx rfl hd rfl hy (by subst hp; exact kk)) k
/-! constants, statics -/
theorem o_ldc {index : Nat} {v : Int32} (w : (Cond.constant own index v).before a0 Z = true) (hd : decode bytes pc = .ok (.ldc index, 2)) (hp : pc + 2 = pc')
    (k : OG p l e R s m args below meth c Z own nm bytes ml ret Q kc ks h cells slots (mkF m pc' ls (.int v :: st))) : OG p l e R s m args below meth c Z own nm bytes ml ret Q kc ks h cells slots (mkF m pc ls st) := by
  intro C T locs X eT N
  refine OGoal.via (fun t kk => X.ldcInt C.1 C.2.2.1 (mvT C.2.1 w) (g := mkF m pc ls st) rfl (hb C.2.2.2.1 hd) t ?_) (k C T locs X eT N)
  subst hp
  exact kk
theorem o_ldc2 {index : Nat} {v : Int64} (w : (Cond.constantLong own index v).before a0 Z = true) (hd : decode bytes pc = .ok (.ldc2_w index, 3)) (hp : pc + 3 = pc')
    (k : OG p l e R s m args below meth c Z own nm bytes ml ret Q kc ks h cells slots (mkF m pc' ls (.long v :: st))) : OG p l e R s m args below meth c Z own nm bytes ml ret Q kc ks h cells slots (mkF m pc ls st) := by
  intro C T locs X eT N
  refine OGoal.via (fun t kk => X.ldc2Long C.1 C.2.2.1 (mvT C.2.1 w) (g := mkF m pc ls st) rfl (hb C.2.2.2.1 hd) t ?_) (k C T locs X eT N)
  subst hp
  exact kk
theorem o_getS {O n d : String} {index : Nat} {v : Value} (w : (Cond.fieldLink own index O n d).before a0 Z = true) (F : Sta Z Z.heap O n d v) (hd : decode bytes pc = .ok (.getstatic index, 3)) (hp : pc + 3 = pc')
    (k : OG p l e R s m args below meth c Z own nm bytes ml ret Q kc ks h cells slots (mkF m pc' ls (v :: st))) : OG p l e R s m args below meth c Z own nm bytes ml ret Q kc ks h cells slots (mkF m pc ls st) := by
  intro C T locs X eT N
  obtain ⟨T', X', e', stp⟩ := getS (host := "") X C.1 C.2.1 C.2.2.1 w Via.refl eT (F.ext (eT ▸ own_ext X C.2.2.2.2.2.2.2.2 N)) (g := mkF m pc ls st) rfl (hb C.2.2.2.1 hd)
  subst hp
  exact OGoal.via stp (k C T' locs X' e' N)
/-! returns -/
theorem own_end {v : Option Value} {S : State} (X : Stand p l e R s m args below meth c T locs cells slots) (hlk : meth.locks = false) (hv : meth.sig.returnType = none → v = none) (hc : cells ≤ kc) (hs : slots ≤ ks) (N : Fr Z.heap.size locs) (eT : T.heap = h) (hq : Q v h)
    (stp : ∀ fs, (∀ (f : JFrame) (acts : List Action), f.method = m → f.locked = none → f.entered = [] → (doReturn e (T.setTop f) acts v).1 = T.setFrames fs) → Steps p.tables e below S (T.setFrames fs)) : OGoal p e below s kc ks Z.heap.size Q S := by
  obtain ⟨fs, hr, hrun, hended, hW, hsame⟩ := X.leave (v := v) hv hlk
  exact ⟨_, _, stp fs hr, hrun, hended, v, locs, rfl, ⟨⟨by rw [show (T.setFrames fs).heap = h from eT]; exact hq, X.same.2.1⟩, N⟩, ⟨v, rfl⟩, hW, hsame.mono hc hs⟩
theorem o_retI {z : Int32} (hd : decode bytes pc = .ok (.ireturn, 1)) (hc : cells ≤ kc) (hs : slots ≤ ks) (hr : ret = some .int) (hq : Q (some (.int z)) h) : OG p l e R s m args below meth c Z own nm bytes ml ret Q kc ks h cells slots (mkF m pc ls (.int z :: rest)) := by
  intro C T locs X eT N
  have hR : meth.sig.returnType = some .int := C.2.2.2.2.2.1.trans hr
  exact own_end X C.2.2.2.2.2.2.1 (fun q => by rw [hR] at q; cases q) hc hs N eT hq (fun fs hl => retOut X C.1 hR rfl (Or.inl ⟨rfl, Or.inl rfl, z, rfl⟩) (hb C.2.2.2.1 hd) hl)
theorem o_retZ {z w : Int32} (hd : decode bytes pc = .ok (.ireturn, 1)) (hc : cells ≤ kc) (hs : slots ≤ ks) (hr : ret = some .boolean) (hz : z = 0 ∨ z = 1) (hq : Q (some (.int z)) h) : OG p l e R s m args below meth c Z own nm bytes ml ret Q kc ks h cells slots (mkF m pc ls (.int z :: rest)) := by
  intro C T locs X eT N
  have hR : meth.sig.returnType = some .boolean := C.2.2.2.2.2.1.trans hr
  have hn : nar .boolean z = z := by rcases hz with rfl | rfl <;> rfl
  exact own_end X C.2.2.2.2.2.2.1 (fun q => by rw [hR] at q; cases q) hc hs N eT hq (fun fs hl => retN X C.1 hR (Or.inl rfl) (hb C.2.2.2.1 hd) (by rw [hn]; exact hl))
theorem o_retL {z : Int64} (hd : decode bytes pc = .ok (.lreturn, 1)) (hc : cells ≤ kc) (hs : slots ≤ ks) (hr : ret = some .long) (hq : Q (some (.long z)) h) : OG p l e R s m args below meth c Z own nm bytes ml ret Q kc ks h cells slots (mkF m pc ls (.long z :: rest)) := by
  intro C T locs X eT N
  have hR : meth.sig.returnType = some .long := C.2.2.2.2.2.1.trans hr
  exact own_end X C.2.2.2.2.2.2.1 (fun q => by rw [hR] at q; cases q) hc hs N eT hq (fun fs hl => retOut X C.1 hR rfl (Or.inr (Or.inl ⟨rfl, rfl, z, rfl⟩)) (hb C.2.2.2.1 hd) hl)
theorem o_retA {w : Value} {t : FieldType} (hd : decode bytes pc = .ok (.areturn, 1)) (hc : cells ≤ kc) (hs : slots ≤ ks) (hr : ret = some t) (ht : t.isReference = true) (hw : w.isRef = true) (hq : Q (some w) h) : OG p l e R s m args below meth c Z own nm bytes ml ret Q kc ks h cells slots (mkF m pc ls (w :: rest)) := by
  intro C T locs X eT N
  have hR : meth.sig.returnType = some t := C.2.2.2.2.2.1.trans hr
  have hn : narrow t w = w := by cases t <;> first | rfl | (cases ht; done)
  exact own_end X C.2.2.2.2.2.2.1 (fun q => by rw [hR] at q; cases q) hc hs N eT hq (fun fs hl => retOut X C.1 hR hn (Or.inr (Or.inr (Or.inr (Or.inr ⟨rfl, ht, hw⟩)))) (hb C.2.2.2.1 hd) hl)
theorem o_retV (hd : decode bytes pc = .ok (.return_, 1)) (hc : cells ≤ kc) (hs : slots ≤ ks) (hr : ret = none) (hq : Q none h) : OG p l e R s m args below meth c Z own nm bytes ml ret Q kc ks h cells slots (mkF m pc ls []) := by
  intro C T locs X eT N
  exact own_end X C.2.2.2.2.2.2.1 (fun _ => rfl) hc hs N eT hq (fun fs hl => X.returnOut C.1 (C.2.2.2.2.2.1.trans hr) (hb C.2.2.2.1 hd) hl)
/-! calls -/
theorem o_callS {index yl W : Nat} {y : MethodName} {yb : ByteArray} {yr : Option FieldType} {rm : Room} {yQ : Option Value → Heap → Prop} {argsL : List Value} {ps : List FieldType} {yr' : Option FieldType}
    (w1 : (Cond.methodLink own index y).before a0 Z = true) (w2 : (Cond.static y).before a0 Z = true) (w3 : (Cond.initialized y.cls).before a0 Z = true) (w4 : (Cond.code y yb yl yr).before a0 Z = true)
    (hy : y.cls ≠ "java/lang/invoke/MethodHandle" ∧ y.cls ≠ "java/lang/invoke/VarHandle") (K : Ext Z.heap h → OCtr l Z y yb yl yr rm argsL.toArray h yQ) (hd : decode bytes pc = .ok (.invokestatic index, 3))
    (hpd : parseMethodDescriptor y.desc = some ⟨ps, yr'⟩) (hpl : argsL.length = ps.length) (hsz : ls.size = ml) (hst : st = argsL.reverse ++ rest) (hW : (rest.map fun v => v.category).sum ≤ W)
    (hf : rm.frames + 1 ≤ R.frames) (hl : W + (yl + 11) + rm.locals ≤ R.locals) (hcc : cells + rm.cells ≤ R.cells) (hss : slots + rm.slots ≤ R.slots) (hp : pc + 3 = pc')
    (k : ∀ v h', yQ v h' → h.size ≤ h'.size → OG p l e R s m args below meth c Z own nm bytes ml ret Q kc ks h' (cells + rm.cells) (slots + rm.slots) (mkF m pc' ls (v.toList ++ rest))) : OG p l e R s m args below meth c Z own nm bytes ml ret Q kc ks h cells slots (mkF m pc ls st) := by
  intro C T locs X eT N
  have hE : Ext Z.heap h := eT ▸ own_ext X C.2.2.2.2.2.2.2.2 N
  obtain ⟨v, vm₁, ⟨T', L', k', n'⟩, -, X', ⟨L, ⟨hQ, hN⟩, e1, e2, e3⟩, stp⟩ := Jvm.LawKit.callS X C.1 (y := y) C.2.2.1 (mvT C.2.1 w1) (mvT C.2.1 w2) (mvT C.2.1 w3) (mvT C.2.1 w4) hy
    (backOf (W := W) (Q := fun v h2 L => (yQ v h2 ∧ h.size ≤ h2.size) ∧ Fr Z.heap.size L) (K hE []) C.2.1 w4 w3 hf hl) (g := mkF m pc ls st) rfl (hsz.trans C.2.2.2.2.1.symm) (argsL := argsL) (rest := rest) (lenOf hpd hpl) hst (by show 2 * 0 + _ ≤ _; rw [Nat.mul_zero, Nat.zero_add]; exact hW) (hb C.2.2.2.1 hd) (fun _ _ => ⟨rfl, eT, hcc, hss⟩)
  dsimp only [Pt.U, Pt.locs, Pt.cells, Pt.slots] at X' e1 e2 e3 hQ stp
  subst e1 e2 e3 hp
  exact OGoal.via stp (k v T'.heap hQ.1 hQ.2 C T' _ X' rfl (Fr.app N hN))
theorem o_callV {index yl W : Nat} {C0 C1 : String} {y z : MethodName} {yb : ByteArray} {yr : Option FieldType} {rm : Room} {yQ : Option Value → Heap → Prop} {a : Addr} {argsL : List Value} {ps : List FieldType} {yr' : Option FieldType}
    (w1 : (Cond.methodLink own index y).before a0 Z = true) (w2 : (Cond.declares y).before a0 Z = true) (w3 : (Cond.selects C0 y z).before a0 Z = true) (wf : (Cond.selects C1 y y).before a0 Z = true) (w4 : (Cond.instanceMethod z).before a0 Z = true) (w5 : (Cond.code z yb yl yr).before a0 Z = true) (w6 : (Cond.initialized z.cls).before a0 Z = true)
    (hy : y.cls ≠ "java/lang/invoke/MethodHandle" ∧ y.cls ≠ "java/lang/invoke/VarHandle") (E : Exa Z h a C0) (K : Ext Z.heap h → OCtr l Z z yb yl yr rm (.ref a :: argsL).toArray h yQ) (hd : decode bytes pc = .ok (.invokevirtual index, 3))
    (hpd : parseMethodDescriptor y.desc = some ⟨ps, yr'⟩) (hpl : argsL.length = ps.length) (hsz : ls.size = ml) (hst : st = argsL.reverse ++ .ref a :: rest) (hW : (rest.map fun v => v.category).sum ≤ W)
    (hf : rm.frames + 1 ≤ R.frames) (hl : W + (yl + 11) + rm.locals ≤ R.locals) (hcc : cells + rm.cells ≤ R.cells) (hss : slots + rm.slots ≤ R.slots) (hp : pc + 3 = pc')
    (k : ∀ v h', yQ v h' → h.size ≤ h'.size → OG p l e R s m args below meth c Z own nm bytes ml ret Q kc ks h' (cells + rm.cells) (slots + rm.slots) (mkF m pc' ls (v.toList ++ rest))) : OG p l e R s m args below meth c Z own nm bytes ml ret Q kc ks h cells slots (mkF m pc ls st) := by
  intro C T locs X eT N
  have hE : Ext Z.heap h := eT ▸ own_ext X C.2.2.2.2.2.2.2.2 N
  obtain ⟨cq, kq, qa, qb, qc⟩ := isOf C.2.1 eT E
  obtain ⟨v, vm₁, ⟨T', L', k', n'⟩, -, X', ⟨L, ⟨hQ, hN⟩, e1, e2, e3⟩, stp⟩ := X.virtualBack C.1 (y := y) (z := z) C.2.2.1 (mvT C.2.1 w1) (mvT C.2.1 w2) (notFace_of_selects (args := #[]) (mvT C.2.1 wf)) (mvT C.2.1 w3) (mvT C.2.1 w4) hy
    (backOf (W := W) (Q := fun v h2 L => (yQ v h2 ∧ h.size ≤ h2.size) ∧ Fr Z.heap.size L) (K hE []) C.2.1 w5 w6 hf hl) qa qc (g := mkF m pc ls st) rfl (hsz.trans C.2.2.2.2.1.symm) (Steps.refl _) (argsL := argsL) (rest := rest) (lenOf hpd hpl) hst (by show 2 * 0 + _ ≤ _; rw [Nat.mul_zero, Nat.zero_add]; exact hW) (hb C.2.2.2.1 hd) (fun _ _ => ⟨rfl, eT, hcc, hss⟩)
  dsimp only [Pt.U, Pt.locs, Pt.cells, Pt.slots] at X' e1 e2 e3 hQ stp
  subst e1 e2 e3 hp
  exact OGoal.via (fun t kk => stp.trans kk) (k v T'.heap hQ.1 hQ.2 C T' _ X' rfl (Fr.app N hN))
theorem o_callI {index yl W : Nat} {y : MethodName} {yb : ByteArray} {rm : Room} {yQ : Option Value → Heap → Prop} {a : Addr} {argsL : List Value} {ps : List FieldType} {yr' : Option FieldType}
    (hyn : y.name = "<init>") (w1 : (Cond.methodLink own index y).before a0 Z = true) (w4 : (Cond.instanceMethod y).before a0 Z = true) (w5 : (Cond.code y yb yl none).before a0 Z = true) (w6 : (Cond.initialized y.cls).before a0 Z = true)
    (hy : y.cls ≠ "java/lang/invoke/MethodHandle" ∧ y.cls ≠ "java/lang/invoke/VarHandle") (K : Ext Z.heap h → OCtr l Z y yb yl none rm (.ref a :: argsL).toArray h yQ) (hd : decode bytes pc = .ok (.invokespecial index, 3))
    (hpd : parseMethodDescriptor y.desc = some ⟨ps, yr'⟩) (hpl : argsL.length = ps.length) (hsz : ls.size = ml) (hst : st = argsL.reverse ++ .ref a :: rest) (hW : (rest.map fun v => v.category).sum ≤ W)
    (hf : rm.frames + 1 ≤ R.frames) (hl : W + (yl + 11) + rm.locals ≤ R.locals) (hcc : cells + rm.cells ≤ R.cells) (hss : slots + rm.slots ≤ R.slots) (hp : pc + 3 = pc')
    (k : ∀ v h', yQ v h' → h.size ≤ h'.size → OG p l e R s m args below meth c Z own nm bytes ml ret Q kc ks h' (cells + rm.cells) (slots + rm.slots) (mkF m pc' ls (v.toList ++ rest))) : OG p l e R s m args below meth c Z own nm bytes ml ret Q kc ks h cells slots (mkF m pc ls st) := by
  intro C T locs X eT N
  have hE : Ext Z.heap h := eT ▸ own_ext X C.2.2.2.2.2.2.2.2 N
  obtain ⟨v, vm₁, ⟨T', L', k', n'⟩, -, X', ⟨L, ⟨hQ, hN⟩, e1, e2, e3⟩, stp⟩ := X.specialBack C.1 (y := y) hyn C.2.2.1 (mvT C.2.1 w1) (mvT C.2.1 w4) (mvT C.2.1 w5) hy
    (backOf (W := W) (Q := fun v h2 L => (yQ v h2 ∧ h.size ≤ h2.size) ∧ Fr Z.heap.size L) (K hE []) C.2.1 w5 w6 hf hl) (g := mkF m pc ls st) rfl (hsz.trans C.2.2.2.2.1.symm) (Steps.refl _) (a := a) (argsL := argsL) (rest := rest) (lenOf hpd hpl) hst (by show 2 * 0 + _ ≤ _; rw [Nat.mul_zero, Nat.zero_add]; exact hW) (hb C.2.2.2.1 hd) (fun _ _ => ⟨rfl, eT, hcc, hss⟩)
  dsimp only [Pt.U, Pt.locs, Pt.cells, Pt.slots] at X' e1 e2 e3 hQ stp
  subst e1 e2 e3 hp
  exact OGoal.via (fun t kk => stp.trans kk) (k v T'.heap hQ.1 hQ.2 C T' _ X' rfl (Fr.app N hN))
theorem o_initO {index W : Nat} {a : Addr} (w1 : (Cond.methodLink own index Lib.objectInit).before a0 Z = true) (w2 : (Cond.instanceMethod Lib.objectInit).before a0 Z = true) (w3 : (Cond.code Lib.objectInit ⟨#[0xb1]⟩ 1 none).before a0 Z = true)
    (hd : decode bytes pc = .ok (.invokespecial index, 3)) (hsz : ls.size = ml) (hW : (rest.map fun v => v.category).sum ≤ W) (hf : 1 ≤ R.frames) (hl : W + 12 ≤ R.locals) (hp : pc + 3 = pc')
    (k : OG p l e R s m args below meth c Z own nm bytes ml ret Q kc ks h cells slots (mkF m pc' ls rest)) : OG p l e R s m args below meth c Z own nm bytes ml ret Q kc ks h cells slots (mkF m pc ls (.ref a :: rest)) := by
  intro C T locs X eT N
  obtain ⟨T', X', e', stp⟩ := initO X C.1 C.2.1 C.2.2.1 w1 w2 w3 eT (g := mkF m pc ls (.ref a :: rest)) rfl (hsz.trans C.2.2.2.2.1.symm) rfl (hb C.2.2.2.1 hd) hf (W := W) (by show 2 * 0 + _ ≤ _; rw [Nat.mul_zero, Nat.zero_add]; exact hW) hl
  subst hp
  exact OGoal.via stp (k C T' locs X' e' N)
/-! objects -/
theorem o_getF {O n d host : String} {index : Nat} {a : Addr} {v : Value} (w : (Cond.fieldLink own index O n d).before a0 Z = true ∨ (Cond.fieldLinkNest own index O n d host).before a0 Z = true) (F : Fld Z h a O n d v) (hd : decode bytes pc = .ok (.getfield index, 3)) (hp : pc + 3 = pc')
    (k : OG p l e R s m args below meth c Z own nm bytes ml ret Q kc ks h cells slots (mkF m pc' ls (v :: rest))) : OG p l e R s m args below meth c Z own nm bytes ml ret Q kc ks h cells slots (mkF m pc ls (.ref a :: rest)) := by
  intro C T locs X eT N
  obtain ⟨T', X', e', stp⟩ := getF X C.1 C.2.1 C.2.2.1 w Via.refl eT F (g := mkF m pc ls (.ref a :: rest)) rfl rfl (hb C.2.2.2.1 hd)
  subst hp
  exact OGoal.via stp (k C T' locs X' e' N)
theorem o_putF {O n d host C0 : String} {index kk : Nat} {ty : FieldType} {a : Addr} {v old : Value} (w : (Cond.fieldLink own index O n d).before a0 Z = true ∨ (Cond.fieldLinkNest own index O n d host).before a0 Z = true) (F : Fld Z h a O n d old) (E : Exa Z h a C0)
    (L : (Cond.lays C0 O n d).before a0 Z = true ∨ ((Cond.laysFinal C0 O n d).before a0 Z = true ∧ own = O ∧ nm = "<init>")) (wi : (Cond.instantiable C0 kk).before a0 Z = true) (hty : parseFieldDescriptor d = some ty) (hn : narrow ty v = v) (hf : fits ty v = true) (ha : Z.heap.size ≤ a)
    (hd : decode bytes pc = .ok (.putfield index, 3)) (hp : pc + 3 = pc')
    (k : ∀ h', Wr h h' a (Jvm.RoadKit.slotOf Z O n d) v → OG p l e R s m args below meth c Z own nm bytes ml ret Q kc ks h' cells slots (mkF m pc' ls rest)) : OG p l e R s m args below meth c Z own nm bytes ml ret Q kc ks h cells slots (mkF m pc ls (v :: .ref a :: rest)) := by
  intro C T locs X eT N
  obtain ⟨T', h', X', e', W', stp⟩ := putF X C.1 C.2.1 C.2.2.1 w Via.refl eT F E (L.imp id fun q => ⟨q.1, q.2.1, C.2.2.2.2.2.2.2.1.trans q.2.2⟩) wi hty hn hf (g := mkF m pc ls (v :: .ref a :: rest)) rfl rfl (hb C.2.2.2.1 hd)
  subst hp
  exact OGoal.via stp (k h' W' C T' _ X' e' (Fr.snoc X' N ha))
theorem o_newO {C0 : String} {index n : Nat} (w : (Cond.classLink own index C0).before a0 Z = true) (wi : (Cond.instantiable C0 n).before a0 Z = true) (wz : (Cond.initialized C0).before a0 Z = true) (hd : decode bytes pc = .ok (.new index, 3)) (hc : cells + 1 ≤ R.cells) (hl : slots + n ≤ R.slots) (hp : pc + 3 = pc')
    (k : ∀ h' a, a = h.size → Z.heap.size ≤ a → Ext h h' → Exa Z h' a C0 → (∀ {O nm d : String} {ty : FieldType}, Laid Z a0 C0 O nm d → parseFieldDescriptor d = some ty → Fld Z h' a O nm d (defaultValue ty)) → OG p l e R s m args below meth c Z own nm bytes ml ret Q kc ks h' (cells + 1) (slots + n) (mkF m pc' ls (.ref a :: st))) : OG p l e R s m args below meth c Z own nm bytes ml ret Q kc ks h cells slots (mkF m pc ls st) := by
  intro C T locs X eT N
  have hE : Ext Z.heap h := eT ▸ own_ext X C.2.2.2.2.2.2.2.2 N
  obtain ⟨T', h', X', e', E', A', D', -, stp⟩ := newO X C.1 C.2.1 C.2.2.1 w wi wz eT (g := mkF m pc ls st) rfl (hb C.2.2.2.1 hd) hc hl
  subst hp
  exact OGoal.via stp (k h' h.size rfl hE.1 E' A' D' C T' _ X' e' N)
theorem own_word {L : List Jvm.Cond} {dc : Jvm.Cond} (hw : ∀ d ∈ L, d.before a0 Z = true) (i : Nat) (q : L[i]? = some dc) : dc.before a0 Z = true := hw _ (List.mem_of_getElem? q)
end OwnKit
section EnumKit
variable {p : Program} {l : Launch} {e : Env} {R : Room} {s : State} {m : MethodId} {args : Array Value} {below : List Frame} {meth : Method} {c : Code} {T : State} {locs : List Loc} {cells slots kc ks : Nat} {Z : State} {a0 : Array Value} {own nm : String} {bytes : ByteArray} {ml : Nat} {ret : Option FieldType} {Q : Option Value → Heap → Prop} {h h' : Heap} {pc pc' : Nat} {ls ls' : Array Slot} {st st' rest : List Value}
/-- the constants of an enum, by their ordinals -/
def OEnum (Z : State) (C D : String) (fs : List String) (A : Nat → Addr) : Prop :=
  ∀ i f, fs[i]? = some f → Sta Z Z.heap C f D (.ref (A i)) ∧ Exa Z Z.heap (A i) C ∧ Fld Z Z.heap (A i) "java/lang/Enum" "ordinal" "I" (.int (Int32.ofNat i))
theorem own_const {C f D : String} {k : Int32} (hx : (Cond.exactly (.static C f D) C).value args s none s [] = some true) (ho : (Cond.eq (.field (.static C f D) "java/lang/Enum" "ordinal" "I") (.int k)).value args s none s [] = some true)
    (wi : (Cond.initialized C).before args s = true) (wl : (Cond.laysStatic C f D).before args s = true) : ∃ a, Sta s s.heap C f D (.ref a) ∧ Exa s s.heap a C ∧ Fld s s.heap a "java/lang/Enum" "ordinal" "I" (.int k) := by
  obtain ⟨a, ev⟩ := exa_v hx
  have e1 := eqv_i (y := k) rfl ho
  rw [fld_at ev] at e1
  exact ⟨a, Sta.start ev (Or.inr ⟨wi, wl⟩), Exa.start ev hx, Fld.start e1⟩
theorem own_nat32 {i : Nat} (hi : i < 100) : (Int32.ofNat i).toInt = i := by
  have : (Int32.ofNat i).toInt = Int.bmod i (2 ^ 32) := Int32.toInt_ofNat'
  rw [this, Int.bmod_def]
  omega
theorem own_tag {i j : Nat} (hi : i < 100) (hj : j < 100) (q : Int32.ofNat i = Int32.ofNat j) : i = j := by
  have h1 := own_nat32 hi
  have h2 := own_nat32 hj
  rw [q] at h1
  omega
theorem OEnum.inj {C D : String} {fs : List String} {A : Nat → Addr} (hen : OEnum Z C D fs A) {i j : Nat} (hl : fs.length < 100) (hi : i < fs.length) (hj : j < fs.length) (q : A i = A j) : i = j := by
  by_cases r : i = j
  · exact r
  · have F := (hen i _ (List.getElem?_eq_getElem hi)).2.2
    have G := (hen j _ (List.getElem?_eq_getElem hj)).2.2
    exact absurd q (Fld.ne F G fun e => r (own_tag (by omega) (by omega) (Value.int.inj e)))
theorem own_pos (x : Int32) : 0 ≤ (x &&& 2147483647).toInt := by
  have h : (x &&& 2147483647).toBitVec.toNat = x.toBitVec.toNat % 2 ^ 31 := by
    rw [Int32.toBitVec_and, BitVec.toNat_and]
    exact Nat.and_two_pow_sub_one_eq_mod _ 31
  have h2 : (x &&& 2147483647).toInt = (x &&& 2147483647).toBitVec.toInt := rfl
  rw [h2, BitVec.toInt_eq_toNat_cond, h]
  split <;> omega
theorem own_mod (x : Int32) {n : Int32} {k : Nat} (hn : n.toInt = k) (hk : 0 < k) (hk2 : k ≤ 100) : ∃ t : Nat, t < k ∧ (x &&& 2147483647) % n = Int32.ofNat t := by
  have h1 := own_pos x
  have h2 : ((x &&& 2147483647) % n).toInt = (x &&& 2147483647).toInt.tmod n.toInt := Int32.toInt_mod _ _
  rw [Int.tmod_eq_emod_of_nonneg h1, hn] at h2
  have h3 := Int.emod_lt_of_pos (x &&& 2147483647).toInt (by omega : (0 : Int) < k)
  have h4 := Int.emod_nonneg (x &&& 2147483647).toInt (by omega : (k : Int) ≠ 0)
  refine ⟨((x &&& 2147483647) % n).toInt.toNat, by omega, Int32.toInt_inj.mp ?_⟩
  rw [own_nat32 (by omega)]
  omega
theorem o_aeq {o : Int} {A : Nat → Addr} {i j pc'' : Nat} (inj : A i = A j → i = j) (hd : decode bytes pc = .ok (.if_acmp .eq o, 3)) (ho : 0 ≤ (pc : Int) + o) (hp : ((pc : Int) + o).toNat = pc') (hp' : pc + 3 = pc'')
    (ky : i = j → OG p l e R s m args below meth c Z own nm bytes ml ret Q kc ks h cells slots (mkF m pc' ls rest)) (kn : ¬ i = j → OG p l e R s m args below meth c Z own nm bytes ml ret Q kc ks h cells slots (mkF m pc'' ls rest)) : OG p l e R s m args below meth c Z own nm bytes ml ret Q kc ks h cells slots (mkF m pc ls (.ref (A j) :: .ref (A i) :: rest)) := by
  by_cases r : i = j
  · exact o_acY hd rfl rfl ho hp (by subst r; exact rfl) (ky r)
  · exact o_acN hd rfl rfl hp' (fun q => r (inj (Value.ref.inj q))) (kn r)
theorem o_ane {o : Int} {A : Nat → Addr} {i j pc'' : Nat} (inj : A i = A j → i = j) (hd : decode bytes pc = .ok (.if_acmp .ne o, 3)) (ho : 0 ≤ (pc : Int) + o) (hp : ((pc : Int) + o).toNat = pc') (hp' : pc + 3 = pc'')
    (ky : ¬ i = j → OG p l e R s m args below meth c Z own nm bytes ml ret Q kc ks h cells slots (mkF m pc' ls rest)) (kn : i = j → OG p l e R s m args below meth c Z own nm bytes ml ret Q kc ks h cells slots (mkF m pc'' ls rest)) : OG p l e R s m args below meth c Z own nm bytes ml ret Q kc ks h cells slots (mkF m pc ls (.ref (A j) :: .ref (A i) :: rest)) := by
  by_cases r : i = j
  · exact o_acN hd rfl rfl hp' (by subst r; exact rfl) (kn r)
  · exact o_acY hd rfl rfl ho hp (fun q => r (inj (Value.ref.inj q))) (ky r)
end EnumKit
section ArrKit
variable {p : Program} {l : Launch} {e : Env} {R : Room} {s : State} {m : MethodId} {args : Array Value} {below : List Frame} {meth : Method} {c : Code} {T : State} {locs : List Loc} {cells slots kc ks : Nat} {Z : State} {a0 : Array Value} {own nm : String} {bytes : ByteArray} {ml : Nat} {ret : Option FieldType} {Q : Option Value → Heap → Prop} {h h' : Heap} {pc pc' : Nat} {ls ls' : Array Slot} {st st' rest : List Value} {a b : Addr} {ty : FieldType} {vs : List Value} {k0 : ClassId}
/-- an array, by what it holds -/
def OArr (Z : State) (h : Heap) (a : Addr) (k0 : ClassId) (ty : FieldType) (vs : List Value) : Prop := ∃ cl : Cell, Arr Z h a cl ty ∧ cl.cls = k0 ∧ cl.slots.toList = vs ∧ vs.length < 2 ^ 31
theorem OArr.lt (F : OArr Z h a k0 ty vs) : a < h.size := by obtain ⟨c, A, -⟩ := F; exact A.lt
theorem OArr.ext (F : OArr Z h a k0 ty vs) (E : Ext h h') : OArr Z h' a k0 ty vs := by obtain ⟨c, A, r⟩ := F; exact ⟨c, A.ext E, r⟩
theorem OArr.other {sl : Nat} {v : Value} (F : OArr Z h b k0 ty vs) (W : Wr h h' a sl v) (q : b ≠ a) : OArr Z h' b k0 ty vs := by obtain ⟨c, A, r⟩ := F; exact ⟨c, A.other W q, r⟩
theorem OArr.keep {ws : List Addr} (F : OArr Z h a k0 ty vs) (K : Keep h h' ws) (q : a ∉ ws) : OArr Z h' a k0 ty vs := by obtain ⟨c, A, r⟩ := F; exact ⟨c, ⟨K.2.1 a c A.1 q, A.2⟩, r⟩
theorem OArr.set {i : Nat} {v : Value} (F : OArr Z h a k0 ty vs) (W : Wr h h' a i v) : OArr Z h' a k0 ty (vs.set i v) := by
  obtain ⟨c, A, q0, q1, q2⟩ := F
  refine ⟨_, A.same W, q0, ?_, by rw [List.length_set]; exact q2⟩
  subst q1
  show (c.slots.setIfInBounds i v).toList = _
  rw [Array.toList_setIfInBounds]
theorem own_clamp {i : Nat} (hi : i < 2 ^ 31) : ¬ (Int32.ofNat i < 0) ∧ (Int32.ofNat i).toNatClampNeg = i := by
  have h1 : (Int32.ofNat i).toInt = i := by
    have : (Int32.ofNat i).toInt = Int.bmod i (2 ^ 32) := Int32.toInt_ofNat'
    rw [this, Int.bmod_def]
    omega
  refine ⟨?_, ?_⟩
  · rw [Int32.lt_iff_toInt_lt, h1]
    show ¬ (i : Int) < 0
    omega
  · show (Int32.ofNat i).toInt.toNat = i
    rw [h1]
    rfl
theorem OArr.at {i : Nat} {v : Value} (F : OArr Z h a k0 ty vs) (hv : vs[i]? = some v) : ∃ cl : Cell, Arr Z h a cl ty ∧ ¬ (Int32.ofNat i < 0 ∨ cl.slots.size ≤ (Int32.ofNat i).toNatClampNeg) ∧ cl.slots[(Int32.ofNat i).toNatClampNeg]? = some v ∧ (Int32.ofNat i).toNatClampNeg = i := by
  obtain ⟨c, A, q0, q1, q2⟩ := F
  subst q1
  have hi : i < c.slots.toList.length := (List.getElem?_eq_some_iff.mp hv).1
  obtain ⟨e1, e2⟩ := own_clamp (i := i) (by omega)
  refine ⟨c, A, ?_, ?_, e2⟩
  · rw [e2]
    intro z
    rcases z with z | z
    · exact e1 z
    · rw [Array.length_toList] at hi; omega
  · rw [e2, ← Array.getElem?_toList]; exact hv
theorem own_inn {i n : Nat} {cl : Cell} (hs : cl.slots.toList.length = n) (hn : n < 2 ^ 31) (hi : i < n) : ¬ (Int32.ofNat i < 0 ∨ cl.slots.size ≤ (Int32.ofNat i).toNatClampNeg) ∧ (Int32.ofNat i).toNatClampNeg = i := by
  obtain ⟨e1, e2⟩ := own_clamp (i := i) (by omega)
  refine ⟨?_, e2⟩
  rw [e2]
  intro z
  rcases z with z | z
  · exact e1 z
  · rw [Array.length_toList] at hs; omega
theorem o_len (F : OArr Z h a k0 ty vs) (hd : decode bytes pc = .ok (.arraylength, 1)) (hp : pc + 1 = pc')
    (k : OG p l e R s m args below meth c Z own nm bytes ml ret Q kc ks h cells slots (mkF m pc' ls (.int (Int32.ofNat vs.length) :: rest))) : OG p l e R s m args below meth c Z own nm bytes ml ret Q kc ks h cells slots (mkF m pc ls (.ref a :: rest)) := by
  intro C T locs X eT N
  obtain ⟨cl, A, q0, q1, q2⟩ := F
  subst hp q1
  refine OGoal.via (fun t kk => X.arraylength C.1 (by rw [eT]; exact A.1) (State.isArrayOf_alike C.2.1.alike A.2.1) (g := mkF m pc ls (.ref a :: rest)) rfl rfl (hb C.2.2.2.1 hd) t ?_) (k C T locs X eT N)
  rw [Array.length_toList] at kk
  exact kk
theorem o_iald {i : Nat} {j : Int32} {v : Value} (F : OArr Z h a k0 .int vs) (hj : j = Int32.ofNat i) (hv : vs[i]? = some v) (hd : decode bytes pc = .ok (.iaload, 1)) (hp : pc + 1 = pc')
    (k : OG p l e R s m args below meth c Z own nm bytes ml ret Q kc ks h cells slots (mkF m pc' ls (v :: rest))) : OG p l e R s m args below meth c Z own nm bytes ml ret Q kc ks h cells slots (mkF m pc ls (.int j :: .ref a :: rest)) := by
  intro C T locs X eT N
  subst hj hp
  obtain ⟨cl, A, e1, e2, -⟩ := F.at hv
  exact OGoal.via (fun t kk => X.iaload C.1 (by rw [eT]; exact A.1) (State.isArrayOf_alike C.2.1.alike A.2.1) A.2.2 e1 e2 (g := mkF m pc ls (.int (Int32.ofNat i) :: .ref a :: rest)) rfl rfl (hb C.2.2.2.1 hd) t kk) (k C T locs X eT N)
theorem o_bald {i : Nat} {j : Int32} {v : Value} (F : OArr Z h a k0 .byte vs) (hj : j = Int32.ofNat i) (hv : vs[i]? = some v) (hd : decode bytes pc = .ok (.baload, 1)) (hp : pc + 1 = pc')
    (k : OG p l e R s m args below meth c Z own nm bytes ml ret Q kc ks h cells slots (mkF m pc' ls (v :: rest))) : OG p l e R s m args below meth c Z own nm bytes ml ret Q kc ks h cells slots (mkF m pc ls (.int j :: .ref a :: rest)) := by
  intro C T locs X eT N
  subst hj hp
  obtain ⟨cl, A, e1, e2, -⟩ := F.at hv
  exact OGoal.via (fun t kk => X.baloadBytes C.1 (by rw [eT]; exact A.1) (State.isArrayOf_alike C.2.1.alike A.2.1) A.2.2 e1 e2 (g := mkF m pc ls (.int (Int32.ofNat i) :: .ref a :: rest)) rfl rfl (hb C.2.2.2.1 hd) t kk) (k C T locs X eT N)
theorem o_zald {i : Nat} {j : Int32} {v : Value} (F : OArr Z h a k0 .boolean vs) (hj : j = Int32.ofNat i) (hv : vs[i]? = some v) (hd : decode bytes pc = .ok (.baload, 1)) (hp : pc + 1 = pc')
    (k : OG p l e R s m args below meth c Z own nm bytes ml ret Q kc ks h cells slots (mkF m pc' ls (v :: rest))) : OG p l e R s m args below meth c Z own nm bytes ml ret Q kc ks h cells slots (mkF m pc ls (.int j :: .ref a :: rest)) := by
  intro C T locs X eT N
  subst hj hp
  obtain ⟨cl, A, e1, e2, -⟩ := F.at hv
  exact OGoal.via (fun t kk => X.baloadBooleans C.1 (by rw [eT]; exact A.1) (State.isArrayOf_alike C.2.1.alike A.2.1) A.2.2 e1 e2 (g := mkF m pc ls (.int (Int32.ofNat i) :: .ref a :: rest)) rfl rfl (hb C.2.2.2.1 hd) t kk) (k C T locs X eT N)
theorem o_aald {i : Nat} {j : Int32} {v : Value} (F : OArr Z h a k0 ty vs) (hty : ty.isReference = true) (hj : j = Int32.ofNat i) (hv : vs[i]? = some v) (hd : decode bytes pc = .ok (.aaload, 1)) (hp : pc + 1 = pc')
    (k : OG p l e R s m args below meth c Z own nm bytes ml ret Q kc ks h cells slots (mkF m pc' ls (v :: rest))) : OG p l e R s m args below meth c Z own nm bytes ml ret Q kc ks h cells slots (mkF m pc ls (.int j :: .ref a :: rest)) := by
  intro C T locs X eT N
  subst hj hp
  obtain ⟨cl, A, e1, e2, -⟩ := F.at hv
  exact OGoal.via (fun t kk => X.aaload C.1 (by rw [eT]; exact A.1) (State.isArrayOf_alike C.2.1.alike A.2.1) hty A.2.2 e1 e2 (g := mkF m pc ls (.int (Int32.ofNat i) :: .ref a :: rest)) rfl rfl (hb C.2.2.2.1 hd) t kk) (k C T locs X eT N)
theorem o_aaldJ {j : Int32} {v : Value} {cl : Cell} (A : Arr Z h a cl ty) (hty : ty.isReference = true) (hj : ¬ (j < 0 ∨ cl.slots.size ≤ j.toNatClampNeg)) (hv : cl.slots[j.toNatClampNeg]? = some v) (hd : decode bytes pc = .ok (.aaload, 1)) (hp : pc + 1 = pc')
    (k : OG p l e R s m args below meth c Z own nm bytes ml ret Q kc ks h cells slots (mkF m pc' ls (v :: rest))) : OG p l e R s m args below meth c Z own nm bytes ml ret Q kc ks h cells slots (mkF m pc ls (.int j :: .ref a :: rest)) := by
  intro C T locs X eT N
  subst hp
  exact OGoal.via (fun t kk => X.aaload C.1 (by rw [eT]; exact A.1) (State.isArrayOf_alike C.2.1.alike A.2.1) hty A.2.2 hj hv (g := mkF m pc ls (.int j :: .ref a :: rest)) rfl rfl (hb C.2.2.2.1 hd) t kk) (k C T locs X eT N)
theorem o_iast {i : Nat} {j x : Int32} (F : OArr Z h a k0 .int vs) (hj : j = Int32.ofNat i) (hi : i < vs.length) (ha : Z.heap.size ≤ a) (hd : decode bytes pc = .ok (.iastore, 1)) (hp : pc + 1 = pc')
    (k : ∀ h', Wr h h' a i (.int x) → OG p l e R s m args below meth c Z own nm bytes ml ret Q kc ks h' cells slots (mkF m pc' ls rest)) : OG p l e R s m args below meth c Z own nm bytes ml ret Q kc ks h cells slots (mkF m pc ls (.int x :: .int j :: .ref a :: rest)) := by
  intro C T locs X eT N
  subst hj hp
  obtain ⟨cl, A, q0, q1, q2⟩ := F
  obtain ⟨e1, e2⟩ := own_inn (i := i) (cl := cl) (by rw [q1]) q2 hi
  obtain ⟨T', h', X', e', W', stp⟩ := stI X C.1 C.2.1 eT A e1 (g := mkF m pc ls (.int x :: .int (Int32.ofNat i) :: .ref a :: rest)) rfl rfl (hb C.2.2.2.1 hd)
  exact OGoal.via stp (k h' (by rw [e2] at W'; exact W') C T' _ X' e' (Fr.snoc X' N ha))
theorem o_bast {i : Nat} {j x : Int32} (F : OArr Z h a k0 .byte vs) (hj : j = Int32.ofNat i) (hi : i < vs.length) (ha : Z.heap.size ≤ a) (hd : decode bytes pc = .ok (.bastore, 1)) (hp : pc + 1 = pc')
    (k : ∀ h', Wr h h' a i (.int (nar .byte x)) → OG p l e R s m args below meth c Z own nm bytes ml ret Q kc ks h' cells slots (mkF m pc' ls rest)) : OG p l e R s m args below meth c Z own nm bytes ml ret Q kc ks h cells slots (mkF m pc ls (.int x :: .int j :: .ref a :: rest)) := by
  intro C T locs X eT N
  subst hj hp
  obtain ⟨cl, A, q0, q1, q2⟩ := F
  obtain ⟨e1, e2⟩ := own_inn (i := i) (cl := cl) (by rw [q1]) q2 hi
  obtain ⟨T', h', X', e', W', stp⟩ := stB X C.1 C.2.1 eT A e1 (g := mkF m pc ls (.int x :: .int (Int32.ofNat i) :: .ref a :: rest)) rfl rfl (hb C.2.2.2.1 hd)
  exact OGoal.via stp (k h' (by rw [e2] at W'; exact W') C T' _ X' e' (Fr.snoc X' N ha))
theorem o_zast {i : Nat} {j x : Int32} (F : OArr Z h a k0 .boolean vs) (hj : j = Int32.ofNat i) (hi : i < vs.length) (ha : Z.heap.size ≤ a) (hd : decode bytes pc = .ok (.bastore, 1)) (hp : pc + 1 = pc')
    (k : ∀ h', Wr h h' a i (.int (nar .boolean x)) → OG p l e R s m args below meth c Z own nm bytes ml ret Q kc ks h' cells slots (mkF m pc' ls rest)) : OG p l e R s m args below meth c Z own nm bytes ml ret Q kc ks h cells slots (mkF m pc ls (.int x :: .int j :: .ref a :: rest)) := by
  intro C T locs X eT N
  subst hj hp
  obtain ⟨cl, A, q0, q1, q2⟩ := F
  obtain ⟨e1, e2⟩ := own_inn (i := i) (cl := cl) (by rw [q1]) q2 hi
  obtain ⟨T', h', X', e', W', stp⟩ := stZ X C.1 C.2.1 eT A e1 (g := mkF m pc ls (.int x :: .int (Int32.ofNat i) :: .ref a :: rest)) rfl rfl (hb C.2.2.2.1 hd)
  exact OGoal.via stp (k h' (by rw [e2] at W'; exact W') C T' _ X' e' (Fr.snoc X' N ha))
theorem o_aast {i : Nat} {j : Int32} {v : Value} (F : OArr Z h a k0 ty vs) (hty : ty.isReference = true) (S : Sto Z h a v) (hj : j = Int32.ofNat i) (hi : i < vs.length) (ha : Z.heap.size ≤ a) (hd : decode bytes pc = .ok (.aastore, 1)) (hp : pc + 1 = pc')
    (k : ∀ h', Wr h h' a i v → OG p l e R s m args below meth c Z own nm bytes ml ret Q kc ks h' cells slots (mkF m pc' ls rest)) : OG p l e R s m args below meth c Z own nm bytes ml ret Q kc ks h cells slots (mkF m pc ls (v :: .int j :: .ref a :: rest)) := by
  intro C T locs X eT N
  subst hj hp
  obtain ⟨cl, A, q0, q1, q2⟩ := F
  obtain ⟨e1, e2⟩ := own_inn (i := i) (cl := cl) (by rw [q1]) q2 hi
  obtain ⟨T', h', X', e', W', stp⟩ := stR X C.1 C.2.1 eT A e1 hty S (g := mkF m pc ls (v :: .int (Int32.ofNat i) :: .ref a :: rest)) rfl rfl (hb C.2.2.2.1 hd)
  exact OGoal.via stp (k h' (by rw [e2] at W'; exact W') C T' _ X' e' (Fr.snoc X' N ha))
theorem own_newA {cA : ClassId} {n : Nat} (hn : n < 2 ^ 31) (A : Arr Z h a (newA cA ty (Int32.ofNat n)) ty) : OArr Z h a cA ty (List.replicate n (defaultValue ty)) := by
  refine ⟨_, A, rfl, ?_, by rw [List.length_replicate]; exact hn⟩
  show (Array.replicate (Int32.ofNat n).toNatClampNeg (defaultValue ty)).toList = _
  rw [(own_clamp hn).2, Array.toList_replicate]
theorem o_newP {aty : ArrayType} {n cap : Nat} {j : Int32} (w : (Cond.arrayClass (newarray.typeOf aty)).before a0 Z = true) (hj : j = Int32.ofNat n) (hn : n ≤ cap) (hcap : cap < 60000000) (hd : decode bytes pc = .ok (.newarray aty, 2)) (hc : cells + 1 ≤ R.cells) (hl : slots + cap ≤ R.slots) (hp : pc + 2 = pc')
    (k : ∀ h' a k0, a = h.size → Z.heap.size ≤ a → Ext h h' → OArr Z h' a k0 (newarray.typeOf aty) (List.replicate n (defaultValue (newarray.typeOf aty))) → OG p l e R s m args below meth c Z own nm bytes ml ret Q kc ks h' (cells + 1) (slots + cap) (mkF m pc' ls (.ref a :: rest))) : OG p l e R s m args below meth c Z own nm bytes ml ret Q kc ks h cells slots (mkF m pc ls (.int j :: rest)) := by
  intro C T locs X eT N
  subst hj hp
  have hE : Ext Z.heap h := eT ▸ own_ext X C.2.2.2.2.2.2.2.2 N
  obtain ⟨e1, e2⟩ := own_clamp (i := n) (by omega)
  obtain ⟨T', h', cA, X', e', E', A', stp⟩ := newP X C.1 C.2.1 w eT (g := mkF m pc ls (.int (Int32.ofNat n) :: rest)) rfl (hb C.2.2.2.1 hd) rfl e1 (cap := cap) (by rw [e2]; exact hn) (by omega) hc hl
  exact OGoal.via stp (k h' h.size cA rfl hE.1 E' (own_newA (by omega) A') C T' _ X' e' N)
theorem o_newR {C0 : String} {index n cap : Nat} {j : Int32} (w1 : (Cond.classLink own index C0).before a0 Z = true) (w2 : (Cond.arrayOver (.object C0)).before a0 Z = true) (hj : j = Int32.ofNat n) (hn : n ≤ cap) (hcap : cap < 60000000) (hd : decode bytes pc = .ok (.anewarray index, 3)) (hc : cells + 1 ≤ R.cells) (hl : slots + cap ≤ R.slots) (hp : pc + 3 = pc')
    (k : ∀ h' a k0, a = h.size → Z.heap.size ≤ a → Ext h h' → OArr Z h' a k0 (.object C0) (List.replicate n .null) → Ovr Z k0 C0 → OG p l e R s m args below meth c Z own nm bytes ml ret Q kc ks h' (cells + 1) (slots + cap) (mkF m pc' ls (.ref a :: rest))) : OG p l e R s m args below meth c Z own nm bytes ml ret Q kc ks h cells slots (mkF m pc ls (.int j :: rest)) := by
  intro C T locs X eT N
  subst hj hp
  have hE : Ext Z.heap h := eT ▸ own_ext X C.2.2.2.2.2.2.2.2 N
  obtain ⟨e1, e2⟩ := own_clamp (i := n) (by omega)
  obtain ⟨T', h', cA, X', e', E', A', O', stp⟩ := newR X C.1 C.2.1 C.2.2.1 w1 w2 eT (g := mkF m pc ls (.int (Int32.ofNat n) :: rest)) rfl (hb C.2.2.2.1 hd) rfl e1 (cap := cap) (by rw [e2]; exact hn) (by omega) hc hl
  exact OGoal.via stp (k h' h.size cA rfl hE.1 E' (own_newA (by omega) A') O' C T' _ X' e' N)
theorem own_sto {y : Addr} {C0 : String} (F : OArr Z h a k0 ty vs) (O : Ovr Z k0 C0) (I : Ins Z h y C0 true) : Sto Z h a (.ref y) := by
  obtain ⟨cl, A, q0, q1, q2⟩ := F
  exact Sto.ofV A q0 O I
end ArrKit
section ObjKit
variable {p : Program} {l : Launch} {e : Env} {R : Room} {s : State} {m : MethodId} {args : Array Value} {below : List Frame} {meth : Method} {c : Code} {T : State} {locs : List Loc} {cells slots kc ks : Nat} {Z : State} {a0 : Array Value} {own nm : String} {bytes : ByteArray} {ml : Nat} {ret : Option FieldType} {Q : Option Value → Heap → Prop} {h h' : Heap} {pc pc' : Nat} {ls ls' : Array Slot} {st st' rest : List Value} {a b : Addr}
theorem o_instY {K : String} {index : Nat} (w : (Cond.classLink own index K).before a0 Z = true) (F : Ins Z h a K true) (hd : decode bytes pc = .ok (.instanceof index, 3)) (hp : pc + 3 = pc')
    (k : OG p l e R s m args below meth c Z own nm bytes ml ret Q kc ks h cells slots (mkF m pc' ls (.int 1 :: rest))) : OG p l e R s m args below meth c Z own nm bytes ml ret Q kc ks h cells slots (mkF m pc ls (.ref a :: rest)) := by
  intro C T locs X eT N
  obtain ⟨T', X', e', stp⟩ := instY X C.1 C.2.1 C.2.2.1 w eT F (g := mkF m pc ls (.ref a :: rest)) rfl rfl (hb C.2.2.2.1 hd)
  subst hp
  exact OGoal.via stp (k C T' locs X' e' N)
theorem o_instNo {K C0 : String} {index : Nat} (w : (Cond.classLink own index K).before a0 Z = true) (E : Exa Z h a C0) (F : ∃ c t, Z.vm.findClass C0 = some c ∧ Z.vm.findClass K = some t ∧ Z.vm.assignable c t = false) (hd : decode bytes pc = .ok (.instanceof index, 3)) (hp : pc + 3 = pc')
    (k : OG p l e R s m args below meth c Z own nm bytes ml ret Q kc ks h cells slots (mkF m pc' ls (.int 0 :: rest))) : OG p l e R s m args below meth c Z own nm bytes ml ret Q kc ks h cells slots (mkF m pc ls (.ref a :: rest)) := by
  intro C T locs X eT N
  obtain ⟨T', X', e', stp⟩ := instNo X C.1 C.2.1 C.2.2.1 w eT E F (g := mkF m pc ls (.ref a :: rest)) rfl rfl (hb C.2.2.2.1 hd)
  subst hp
  exact OGoal.via stp (k C T' locs X' e' N)
theorem o_instNull {index : Nat} (hd : decode bytes pc = .ok (.instanceof index, 3)) (hp : pc + 3 = pc')
    (k : OG p l e R s m args below meth c Z own nm bytes ml ret Q kc ks h cells slots (mkF m pc' ls (.int 0 :: rest))) : OG p l e R s m args below meth c Z own nm bytes ml ret Q kc ks h cells slots (mkF m pc ls (.null :: rest)) := by
  intro C T locs X eT N
  subst hp
  exact OGoal.via (X.instanceofNull C.1 (g := mkF m pc ls (.null :: rest)) rfl rfl (hb C.2.2.2.1 hd)) (k C T locs X eT N)
theorem o_cast {K : String} {index : Nat} (w : (Cond.classLink own index K).before a0 Z = true) (F : Ins Z h a K true) (hd : decode bytes pc = .ok (.checkcast index, 3)) (hp : pc + 3 = pc')
    (k : OG p l e R s m args below meth c Z own nm bytes ml ret Q kc ks h cells slots (mkF m pc' ls (.ref a :: rest))) : OG p l e R s m args below meth c Z own nm bytes ml ret Q kc ks h cells slots (mkF m pc ls (.ref a :: rest)) := by
  intro C T locs X eT N
  obtain ⟨T', X', e', stp⟩ := castY X C.1 C.2.1 C.2.2.1 w eT F (g := mkF m pc ls (.ref a :: rest)) rfl rfl (hb C.2.2.2.1 hd)
  subst hp
  exact OGoal.via stp (k C T' locs X' e' N)
theorem own_root {O K : String} {n : Nat} (w : (Cond.noSuperclass O).before a0 Z = true) (wi : (Cond.instantiable K n).before a0 Z = true) (hn : O ≠ K) : NS Z O K := by
  obtain ⟨c, k, h1, h2, h3, -, -⟩ := Cond.noSuperclass_spec w
  obtain ⟨t, k', g1, -⟩ := Cond.instantiable_spec wi
  have ne := ids_ne h1 g1 hn
  refine ⟨c, t, h1, g1, fun fuel => ?_⟩
  cases fuel with
  | zero => rfl
  | succ f => simp [Vm.isSubclassAux, ne, h2, h3]
theorem own_no {C0 S K : String} {n : Nat} (w : (Cond.superclass C0 S).before a0 Z = true) (wi : (Cond.instantiable K n).before a0 Z = true) (q : NS Z C0 K) (hn : C0 ≠ K) : ∃ c t, Z.vm.findClass C0 = some c ∧ Z.vm.findClass K = some t ∧ Z.vm.assignable c t = false := by
  obtain ⟨c, t, h0, g0, n3⟩ := q
  obtain ⟨p, k, kp, h1, h2, h3, h4, h5, -, h7⟩ := Cond.superclass_spec h0 w
  obtain ⟨t', k', g1, g2, g3, g4, -⟩ := Cond.instantiable_spec wi
  cases g0.symm.trans g1
  have ne := ids_ne h0 g0 hn
  have gi : k'.isInterface = false := (Bool.or_eq_false_iff.mp g4).1
  refine ⟨c, t, h0, g0, ?_⟩
  show Z.vm.assignableAux (255 + 1) c t = false
  simp [Vm.assignableAux, ne, h2, g2, h5, g3, gi, Vm.isSubclass, n3]
end ObjKit
def OBat (Z : State) (h : Heap) (a : Addr) (n : Int32) (v : Value) (r f : Int64) : Prop := Exa Z h a "com/example/laden_barge/ladenbarge/service/InternalBatch" ∧ Fld Z h a "com/example/laden_barge/ladenbarge/service/InternalBatch" "number" "I" (.int n) ∧ Fld Z h a "com/example/laden_barge/ladenbarge/service/InternalBatch" "state" "Lcom/example/laden_barge/ladenbarge/model/BatchState;" v ∧ Fld Z h a "com/example/laden_barge/ladenbarge/service/InternalBatch" "records" "J" (.long r) ∧ Fld Z h a "com/example/laden_barge/ladenbarge/service/InternalBatch" "recordsFailed" "J" (.long f)
theorem OBat.ext {Z : State} {h h' : Heap} {a : Addr} {n : Int32} {v : Value} {r f : Int64} (B : OBat Z h a n v r f) (E : Ext h h') : OBat Z h' a n v r f := ⟨B.1.ext E, B.2.1.ext E, B.2.2.1.ext E, B.2.2.2.1.ext E, B.2.2.2.2.ext E⟩
theorem OBat.keep {Z : State} {h h' : Heap} {a : Addr} {n : Int32} {v : Value} {r f : Int64} {ws : List Addr} (B : OBat Z h a n v r f) (K : Keep h h' ws) (q : a ∉ ws) : OBat Z h' a n v r f := ⟨B.1.keep K, B.2.1.keep K q, B.2.2.1.keep K q, B.2.2.2.1.keep K q, B.2.2.2.2.keep K q⟩
theorem OBat.lt {Z : State} {h : Heap} {a : Addr} {n : Int32} {v : Value} {r f : Int64} (B : OBat Z h a n v r f) : a < h.size := B.1.lt
theorem own_cmp0 (x y : Int64) : XT.cmpL x y = 0 ↔ x = y := by
  have e : XT.cmpL x y = if y < x then 1 else if x = y then 0 else -1 := rfl
  rw [e]
  by_cases h1 : y < x
  · rw [if_pos h1]
    refine ⟨fun q => absurd q (by decide), fun q => ?_⟩
    subst q
    rw [Int64.lt_iff_toInt_lt] at h1
    omega
  · rw [if_neg h1]
    by_cases h2 : x = y
    · rw [if_pos h2]; exact ⟨fun _ => h2, fun _ => rfl⟩
    · rw [if_neg h2]; exact ⟨fun q => absurd q (by decide), fun q => absurd q h2⟩
def OCache (Z : State) (ca : Addr) (cc : Cell) : Prop := Sta Z Z.heap "java/lang/Integer$IntegerCache" "high" "I" (.int 127) ∧ Sta Z Z.heap "java/lang/Integer$IntegerCache" "cache" "[Ljava/lang/Integer;" (.ref ca) ∧ Bxs Z ca cc "java/lang/Integer" "I" 256 (fun j => .int (j - 128))
theorem own_odd32 (n x : Int32) : ¬ n = n + (x ||| 1) := by
  intro q
  have h1 : (n + (x ||| 1)).toBitVec = n.toBitVec + (x.toBitVec ||| 1#32) := rfl
  have h2 : n.toBitVec = n.toBitVec + (x.toBitVec ||| 1#32) := by rw [← h1, ← q]
  have h3 : x.toBitVec ||| 1#32 = 0#32 := by
    have : n.toBitVec + 0#32 = n.toBitVec + (x.toBitVec ||| 1#32) := by rw [BitVec.add_zero]; exact h2
    exact ((BitVec.add_right_inj n.toBitVec).mp this).symm
  have h4 := congrArg (fun b => b.getLsbD 0) h3
  simp at h4
theorem own_odd64 (n x : Int64) : ¬ n = n + (x ||| 1) := by
  intro q
  have h1 : (n + (x ||| 1)).toBitVec = n.toBitVec + (x.toBitVec ||| 1#64) := rfl
  have h2 : n.toBitVec = n.toBitVec + (x.toBitVec ||| 1#64) := by rw [← h1, ← q]
  have h3 : x.toBitVec ||| 1#64 = 0#64 := by
    have : n.toBitVec + 0#64 = n.toBitVec + (x.toBitVec ||| 1#64) := by rw [BitVec.add_zero]; exact h2
    exact ((BitVec.add_right_inj n.toBitVec).mp this).symm
  have h4 := congrArg (fun b => b.getLsbD 0) h3
  simp at h4
theorem own_bits (x : Int32) : (x &&& 15 = 0) ↔ (x &&& 1 = 0 ∧ x &&& 2 = 0 ∧ x &&& 4 = 0 ∧ x &&& 8 = 0) := by
  constructor
  · intro q
    refine ⟨?_, ?_, ?_, ?_⟩
    · rw [show (1 : Int32) = 15 &&& 1 by decide, ← Int32.and_assoc, q]; rfl
    · rw [show (2 : Int32) = 15 &&& 2 by decide, ← Int32.and_assoc, q]; rfl
    · rw [show (4 : Int32) = 15 &&& 4 by decide, ← Int32.and_assoc, q]; rfl
    · rw [show (8 : Int32) = 15 &&& 8 by decide, ← Int32.and_assoc, q]; rfl
  · rintro ⟨h1, h2, h4, h8⟩
    apply Int32.toBitVec_inj.mp
    have g1 := congrArg (fun z => z.toBitVec.getLsbD 0) h1
    have g2 := congrArg (fun z => z.toBitVec.getLsbD 1) h2
    have g4 := congrArg (fun z => z.toBitVec.getLsbD 2) h4
    have g8 := congrArg (fun z => z.toBitVec.getLsbD 3) h8
    simp only [Int32.toBitVec_and, BitVec.getLsbD_and] at g1 g2 g4 g8
    have e1 : x.toBitVec.getLsbD 0 = false := by
      have : (1 : Int32).toBitVec.getLsbD 0 = true := by decide
      rw [this, Bool.and_true] at g1; exact g1
    have e2 : x.toBitVec.getLsbD 1 = false := by
      have : (2 : Int32).toBitVec.getLsbD 1 = true := by decide
      rw [this, Bool.and_true] at g2; exact g2
    have e4 : x.toBitVec.getLsbD 2 = false := by
      have : (4 : Int32).toBitVec.getLsbD 2 = true := by decide
      rw [this, Bool.and_true] at g4; exact g4
    have e8 : x.toBitVec.getLsbD 3 = false := by
      have : (8 : Int32).toBitVec.getLsbD 3 = true := by decide
      rw [this, Bool.and_true] at g8; exact g8
    apply BitVec.eq_of_getLsbD_eq
    intro i hi
    rw [Int32.toBitVec_and, BitVec.getLsbD_and]
    by_cases q : i < 4
    · have : i = 0 ∨ i = 1 ∨ i = 2 ∨ i = 3 := by omega
      rcases this with rfl | rfl | rfl | rfl
      · rw [e1]; rfl
      · rw [e2]; rfl
      · rw [e4]; rfl
      · rw [e8]; rfl
    · have : (15 : Int32).toBitVec.getLsbD i = false := by
        show (15#32).getLsbD i = false
        rw [BitVec.getLsbD_ofNat]
        have : Nat.testBit 15 i = false := by
          apply Nat.testBit_lt_two_pow
          exact Nat.lt_of_lt_of_le (by decide : 15 < 2 ^ 4) (Nat.pow_le_pow_right (by decide) (by omega))
        rw [this, Bool.and_false]
      rw [this, Bool.and_false]
      exact (by simp : (0 : Int32).toBitVec.getLsbD i = false).symm
theorem own_len {s : State} {args : Array Value} {t : Term} {a : Addr} {cl : Cell} {z : Int32} (ev : t.eval args s none [] s = some (.ref a)) (ha : s.arrayAt? a = some cl) (e : (Term.length t).eval args s none [] s = some (.int z)) : cl.slots.size < 2 ^ 31 ∧ cl.slots.size.toInt32 = z := by
  simp [Term.eval, ev, ha] at e
  exact e
theorem own_bxs {s : State} {args : Array Value} {C D : String} {ca : Addr} {cc : Cell} (ev : (Term.static C "cache" D).eval args s none [] s = some (.ref ca)) (A : Arr s s.heap ca cc (.object "java/lang/Integer"))
    (hl : (Cond.eq (.length (.static C "cache" D)) (.int 256)).value args s none s [] = some true)
    (ha : (Cond.all (.static C "cache" D) (.and (.exactly (.elem (.static C "cache" D) (.index 0)) "java/lang/Integer") (.eq (.field (.elem (.static C "cache" D) (.index 0)) "java/lang/Integer" "value" "I") (.sub (.index 0) (.int 128))))).value args s none s [] = some true) :
    Bxs s ca cc "java/lang/Integer" "I" 256 (fun j => .int (j - 128)) := by
  have e1 := eqv_i (y := 256) rfl hl
  have q5 : s.arrayAt? ca = some cc := Arr.fin (Vm.Alike.refl _) A
  obtain ⟨q3, q4⟩ := own_len ev q5 e1
  exact Bxs.start (fun _ => ev) A q3 q4 (by decide) ha (fun X j hj h => eqv_i (by simp [Term.eval]; exact (back32 hj).1) h)
theorem own_initd {s : State} {args : Array Value} {C n d : String} (h1 : (Cond.laysStatic C n d).before args s = true) (h2 : (Cond.initializedFor C n d).before args s = true) : (Cond.initialized C).before args s = true := by
  obtain ⟨c, k, i, f, a, cell, q1, q2, -⟩ := Cond.laysStatic_spec h1
  have q3 := Cond.initializedFor_spec q2 h2
  have q4 := State.fieldFound?_class q2
  simp [Cond.before, Cond.holds, Cond.value, q1, q4, q3]
theorem own_idx {x : Int32} (h1 : ¬ x < -128) (h2 : ¬ (127 : Int32) < x) {n : Nat} (hn : n = (256 : Int32).toNatClampNeg) : ¬ (x + 128 < 0 ∨ n ≤ (x + 128).toNatClampNeg) := by
  rw [Int32.lt_iff_toInt_lt] at h1 h2
  have e1 : (-128 : Int32).toInt = -128 := rfl
  have e2 : (127 : Int32).toInt = 127 := rfl
  have e3 : (128 : Int32).toInt = 128 := rfl
  have e4 : (x + 128).toInt = x.toInt + 128 := by
    rw [Int32.toInt_add, e3, Int.bmod_def]
    have := Int32.le_toInt x
    have := Int32.toInt_lt x
    omega
  subst hn
  rw [Int32.lt_iff_toInt_lt, e4]
  show ¬ (x.toInt + 128 < 0 ∨ (256 : Int).toNat ≤ (x + 128).toInt.toNat)
  rw [e4]
  omega
theorem own_i2 {t : Nat} (ht : t < 5) (x : Int32) : ∃ u, u < 5 ∧ ¬ t = u ∧ ((Int32.ofNat t + 1) + (XT.ushr x 8) % 4) % 5 = Int32.ofNat u := by
  have h1 : (XT.ushr x 8).toInt = (x.toBitVec.toNat / 256 : Nat) := by
    have e : ((8 : Int32) &&& 31).toUInt32 = (8 : UInt32) := by decide
    have e2 : (XT.ushr x 8).toBitVec.toNat = x.toBitVec.toNat / 256 := by
      show (x.toUInt32 >>> ((8 : Int32) &&& 31).toUInt32).toNat = _
      rw [e, UInt32.toNat_shiftRight]
      show _ >>> 8 = _
      rw [Nat.shiftRight_eq_div_pow]
      rfl
    show (XT.ushr x 8).toBitVec.toInt = _
    rw [BitVec.toInt_eq_toNat_cond, e2]
    have := x.toBitVec.isLt
    rw [if_pos (by omega)]
  have h2 : ((XT.ushr x 8) % 4).toInt = ((x.toBitVec.toNat / 256 % 4 : Nat) : Int) := by
    rw [Int32.toInt_mod, h1]
    show Int.tmod _ 4 = _
    rw [Int.tmod_eq_emod_of_nonneg (by omega)]
    omega
  have h3 : (Int32.ofNat t + 1).toInt = t + 1 := by
    have e1 : (1 : Int32).toInt = 1 := rfl
    rw [Int32.toInt_add, own_nat32 (by omega), e1, Int.bmod_def]
    omega
  have h4 : ((Int32.ofNat t + 1) + (XT.ushr x 8) % 4).toInt = ((t + 1 + x.toBitVec.toNat / 256 % 4 : Nat) : Int) := by
    rw [Int32.toInt_add, h3, h2, Int.bmod_def]
    omega
  refine ⟨(t + 1 + x.toBitVec.toNat / 256 % 4) % 5, by omega, by omega, Int32.toInt_inj.mp ?_⟩
  rw [own_nat32 (by omega), Int32.toInt_mod, h4]
  show Int.tmod _ 5 = _
  rw [Int.tmod_eq_emod_of_nonneg (by omega)]
  omega

theorem b1_0_1 : oBlk method_2_code 0 [.iload_n 0] = some 1 := by decide +kernel
theorem d1_1 : decode method_2_code 1 = .ok (.ifCond .ne 7, 3) := by decide +kernel
theorem b1_8_10 : oBlk method_2_code 8 [.iload_n 0, .iconst 1] = some 10 := by decide +kernel
theorem d1_10 : decode method_2_code 10 = .ok (.if_icmp .ne 7, 3) := by decide +kernel
theorem b1_17_19 : oBlk method_2_code 17 [.iload_n 0, .iconst 2] = some 19 := by decide +kernel
theorem d1_19 : decode method_2_code 19 = .ok (.if_icmp .ne 7, 3) := by decide +kernel
theorem b1_26_28 : oBlk method_2_code 26 [.iload_n 0, .iconst 3] = some 28 := by decide +kernel
theorem d1_28 : decode method_2_code 28 = .ok (.if_icmp .ne 7, 3) := by decide +kernel
theorem d1_35 : decode method_2_code 35 = .ok (.getstatic 22, 3) := by decide +kernel
theorem d1_38 : decode method_2_code 38 = .ok (.areturn, 1) := by decide +kernel
theorem d1_31 : decode method_2_code 31 = .ok (.getstatic 19, 3) := by decide +kernel
theorem d1_34 : decode method_2_code 34 = .ok (.areturn, 1) := by decide +kernel
theorem d1_22 : decode method_2_code 22 = .ok (.getstatic 16, 3) := by decide +kernel
theorem d1_25 : decode method_2_code 25 = .ok (.areturn, 1) := by decide +kernel
theorem d1_13 : decode method_2_code 13 = .ok (.getstatic 13, 3) := by decide +kernel
theorem d1_16 : decode method_2_code 16 = .ok (.areturn, 1) := by decide +kernel
theorem d1_4 : decode method_2_code 4 = .ok (.getstatic 7, 3) := by decide +kernel
theorem d1_7 : decode method_2_code 7 = .ok (.areturn, 1) := by decide +kernel
theorem pn_0 : plainName "com/example/laden_barge/ladenbarge/service/InternalBatchEqualsPinLaw" = true := by first | (simp [plainName, overriddenIn]; done) | decide +kernel
theorem b2_0_1 : oBlk prog_46_method_1_code 0 [.aload_n 0] = some 1 := by decide +kernel
theorem d2_1 : decode prog_46_method_1_code 1 = .ok (.invokespecial 1, 3) := by decide +kernel
theorem b2_4_6 : oBlk prog_46_method_1_code 4 [.aload_n 0, .iload_n 1] = some 6 := by decide +kernel
theorem d2_6 : decode prog_46_method_1_code 6 = .ok (.putfield 7, 3) := by decide +kernel
theorem b2_9_11 : oBlk prog_46_method_1_code 9 [.aload_n 0, .aload_n 2] = some 11 := by decide +kernel
theorem d2_11 : decode prog_46_method_1_code 11 = .ok (.putfield 13, 3) := by decide +kernel
theorem b2_14_16 : oBlk prog_46_method_1_code 14 [.aload_n 0, .lload_n 3] = some 16 := by decide +kernel
theorem d2_16 : decode prog_46_method_1_code 16 = .ok (.putfield 17, 3) := by decide +kernel
theorem b2_19_22 : oBlk prog_46_method_1_code 19 [.aload_n 0, .lload 5] = some 22 := by decide +kernel
theorem d2_22 : decode prog_46_method_1_code 22 = .ok (.putfield 21, 3) := by decide +kernel
theorem d2_25 : decode prog_46_method_1_code 25 = .ok (.return_, 1) := by decide +kernel
theorem pn_1 : plainName "com/example/laden_barge/ladenbarge/service/InternalBatch" = true := by first | (simp [plainName, overriddenIn]; done) | decide +kernel
theorem b5_0_1 : oBlk prog_46_method_6_code 0 [.aload_n 1] = some 1 := by decide +kernel
theorem d5_1 : decode prog_46_method_6_code 1 = .ok (.instanceof 8, 3) := by decide +kernel
theorem d5_4 : decode prog_46_method_6_code 4 = .ok (.ifCond .eq 58, 3) := by decide +kernel
theorem b5_7_8 : oBlk prog_46_method_6_code 7 [.aload_n 1] = some 8 := by decide +kernel
theorem d5_8 : decode prog_46_method_6_code 8 = .ok (.checkcast 8, 3) := by decide +kernel
theorem b5_11_12 : oBlk prog_46_method_6_code 11 [.astore_n 2] = some 12 := by decide +kernel
theorem b5_12_13 : oBlk prog_46_method_6_code 12 [.aload_n 0] = some 13 := by decide +kernel
theorem d5_13 : decode prog_46_method_6_code 13 = .ok (.getfield 7, 3) := by decide +kernel
theorem b5_16_17 : oBlk prog_46_method_6_code 16 [.aload_n 2] = some 17 := by decide +kernel
theorem d5_17 : decode prog_46_method_6_code 17 = .ok (.getfield 7, 3) := by decide +kernel
theorem d5_20 : decode prog_46_method_6_code 20 = .ok (.if_icmp .ne 42, 3) := by decide +kernel
theorem b5_62_63 : oBlk prog_46_method_6_code 62 [.iconst 0] = some 63 := by decide +kernel
theorem d5_63 : decode prog_46_method_6_code 63 = .ok (.ireturn, 1) := by decide +kernel
theorem b5_23_24 : oBlk prog_46_method_6_code 23 [.aload_n 0] = some 24 := by decide +kernel
theorem d5_24 : decode prog_46_method_6_code 24 = .ok (.getfield 13, 3) := by decide +kernel
theorem b5_27_28 : oBlk prog_46_method_6_code 27 [.aload_n 2] = some 28 := by decide +kernel
theorem d5_28 : decode prog_46_method_6_code 28 = .ok (.getfield 13, 3) := by decide +kernel
theorem d5_31 : decode prog_46_method_6_code 31 = .ok (.if_acmp .ne 31, 3) := by decide +kernel
theorem b5_34_35 : oBlk prog_46_method_6_code 34 [.aload_n 0] = some 35 := by decide +kernel
theorem d5_35 : decode prog_46_method_6_code 35 = .ok (.getfield 17, 3) := by decide +kernel
theorem b5_38_39 : oBlk prog_46_method_6_code 38 [.aload_n 2] = some 39 := by decide +kernel
theorem d5_39 : decode prog_46_method_6_code 39 = .ok (.getfield 17, 3) := by decide +kernel
theorem b5_42_43 : oBlk prog_46_method_6_code 42 [.lcmp] = some 43 := by decide +kernel
theorem d5_43 : decode prog_46_method_6_code 43 = .ok (.ifCond .ne 19, 3) := by decide +kernel
theorem b5_46_47 : oBlk prog_46_method_6_code 46 [.aload_n 0] = some 47 := by decide +kernel
theorem d5_47 : decode prog_46_method_6_code 47 = .ok (.getfield 21, 3) := by decide +kernel
theorem b5_50_51 : oBlk prog_46_method_6_code 50 [.aload_n 2] = some 51 := by decide +kernel
theorem d5_51 : decode prog_46_method_6_code 51 = .ok (.getfield 21, 3) := by decide +kernel
theorem b5_54_55 : oBlk prog_46_method_6_code 54 [.lcmp] = some 55 := by decide +kernel
theorem d5_55 : decode prog_46_method_6_code 55 = .ok (.ifCond .ne 7, 3) := by decide +kernel
theorem b5_58_59 : oBlk prog_46_method_6_code 58 [.iconst 1] = some 59 := by decide +kernel
theorem d5_59 : decode prog_46_method_6_code 59 = .ok (.goto 4, 3) := by decide +kernel
theorem b7_0_1 : oBlk jdk_18_method_1_code 0 [.aload_n 0] = some 1 := by decide +kernel
theorem d7_1 : decode jdk_18_method_1_code 1 = .ok (.invokespecial 1, 3) := by decide +kernel
theorem d7_4 : decode jdk_18_method_1_code 4 = .ok (.return_, 1) := by decide +kernel
theorem pn_2 : plainName "java/lang/Number" = true := by first | (simp [plainName, overriddenIn]; done) | decide +kernel
theorem b6_0_1 : oBlk jdk_33_method_23_code 0 [.aload_n 0] = some 1 := by decide +kernel
theorem d6_1 : decode jdk_33_method_23_code 1 = .ok (.invokespecial 202, 3) := by decide +kernel
theorem pd_0 : parseMethodDescriptor "()V" = some ⟨[], none⟩ := by decide +kernel
theorem b6_4_6 : oBlk jdk_33_method_23_code 4 [.aload_n 0, .iload_n 1] = some 6 := by decide +kernel
theorem d6_6 : decode jdk_33_method_23_code 6 = .ok (.putfield 205, 3) := by decide +kernel
theorem d6_9 : decode jdk_33_method_23_code 9 = .ok (.return_, 1) := by decide +kernel
theorem pn_3 : plainName "java/lang/Integer" = true := by first | (simp [plainName, overriddenIn]; done) | decide +kernel
theorem b4_0_3 : oBlk jdk_33_method_22_code 0 [.iload_n 0, .bipush (-128)] = some 3 := by decide +kernel
theorem d4_3 : decode jdk_33_method_22_code 3 = .ok (.if_icmp .lt 20, 3) := by decide +kernel
theorem d4_23 : decode jdk_33_method_22_code 23 = .ok (.new 1, 3) := by decide +kernel
theorem b4_26_28 : oBlk jdk_33_method_22_code 26 [.dup, .iload_n 0] = some 28 := by decide +kernel
theorem d4_28 : decode jdk_33_method_22_code 28 = .ok (.invokespecial 199, 3) := by decide +kernel
theorem pd_1 : parseMethodDescriptor "(I)V" = some ⟨[.int], none⟩ := by decide +kernel
theorem d4_31 : decode jdk_33_method_22_code 31 = .ok (.areturn, 1) := by decide +kernel
theorem b4_6_7 : oBlk jdk_33_method_22_code 6 [.iload_n 0] = some 7 := by decide +kernel
theorem d4_7 : decode jdk_33_method_22_code 7 = .ok (.getstatic 191, 3) := by decide +kernel
theorem d4_10 : decode jdk_33_method_22_code 10 = .ok (.if_icmp .gt 13, 3) := by decide +kernel
theorem d4_13 : decode jdk_33_method_22_code 13 = .ok (.getstatic 195, 3) := by decide +kernel
theorem b4_16_21 : oBlk jdk_33_method_22_code 16 [.iload_n 0, .sipush 128, .iadd] = some 21 := by decide +kernel
theorem d4_21 : decode jdk_33_method_22_code 21 = .ok (.aaload, 1) := by decide +kernel
theorem d4_22 : decode jdk_33_method_22_code 22 = .ok (.areturn, 1) := by decide +kernel
theorem b0_0_1 : oBlk code 0 [.iload_n 1] = some 1 := by decide +kernel
theorem d0_1 : decode code 1 = .ok (.ldc 25, 2) := by decide +kernel
theorem b0_3_5 : oBlk code 3 [.iand, .iconst 5] = some 5 := by decide +kernel
theorem d0_5 : decode code 5 = .ok (.irem, 1) := by decide +kernel
theorem b0_6_8 : oBlk code 6 [.istore 9] = some 8 := by decide +kernel
theorem b0_8_12 : oBlk code 8 [.iload 6, .iconst 2, .iand] = some 12 := by decide +kernel
theorem d0_12 : decode code 12 = .ok (.ifCond .eq 20, 3) := by decide +kernel
theorem b0_34_36 : oBlk code 34 [.istore 10] = some 36 := by decide +kernel
theorem b0_36_40 : oBlk code 36 [.iload 6, .iconst 1, .iand] = some 40 := by decide +kernel
theorem d0_40 : decode code 40 = .ok (.ifCond .eq 13, 3) := by decide +kernel
theorem b0_54_56 : oBlk code 54 [.istore 11] = some 56 := by decide +kernel
theorem b0_56_60 : oBlk code 56 [.iload 6, .iconst 4, .iand] = some 60 := by decide +kernel
theorem d0_60 : decode code 60 = .ok (.ifCond .eq 12, 3) := by decide +kernel
theorem b0_73_75 : oBlk code 73 [.lstore 12] = some 75 := by decide +kernel
theorem b0_75_80 : oBlk code 75 [.iload 6, .bipush 8, .iand] = some 80 := by decide +kernel
theorem d0_80 : decode code 80 = .ok (.ifCond .eq 15, 3) := by decide +kernel
theorem b0_97_99 : oBlk code 97 [.lstore 14] = some 99 := by decide +kernel
theorem d0_99 : decode code 99 = .ok (.new 26, 3) := by decide +kernel
theorem b0_102_106 : oBlk code 102 [.dup, .iload_n 0, .iload 9] = some 106 := by decide +kernel
theorem d0_106 : decode code 106 = .ok (.invokestatic 28, 3) := by decide +kernel
theorem pd_2 : parseMethodDescriptor "(I)Lcom/example/laden_barge/ladenbarge/model/BatchState;" = some ⟨[.int], some (.object "com/example/laden_barge/ladenbarge/model/BatchState")⟩ := by decide +kernel
theorem b0_109_112 : oBlk code 109 [.lload_n 2, .lload 4] = some 112 := by decide +kernel
theorem d0_112 : decode code 112 = .ok (.invokespecial 34, 3) := by decide +kernel
theorem pd_3 : parseMethodDescriptor "(ILcom/example/laden_barge/ladenbarge/model/BatchState;JJ)V" = some ⟨[.int, (.object "com/example/laden_barge/ladenbarge/model/BatchState"), .long, .long], none⟩ := by decide +kernel
theorem b0_115_117 : oBlk code 115 [.astore 16] = some 117 := by decide +kernel
theorem d0_117 : decode code 117 = .ok (.new 26, 3) := by decide +kernel
theorem b0_120_125 : oBlk code 120 [.dup, .iload 11, .iload 10] = some 125 := by decide +kernel
theorem d0_125 : decode code 125 = .ok (.invokestatic 28, 3) := by decide +kernel
theorem b0_128_132 : oBlk code 128 [.lload 12, .lload 14] = some 132 := by decide +kernel
theorem d0_132 : decode code 132 = .ok (.invokespecial 34, 3) := by decide +kernel
theorem b0_135_137 : oBlk code 135 [.astore 17] = some 137 := by decide +kernel
theorem b0_137_142 : oBlk code 137 [.iload 6, .bipush 15, .iand] = some 142 := by decide +kernel
theorem d0_142 : decode code 142 = .ok (.ifCond .ne 7, 3) := by decide +kernel
theorem b0_149_152 : oBlk code 149 [.iconst 0, .istore 18] = some 152 := by decide +kernel
theorem b0_152_153 : oBlk code 152 [.iload_n 0] = some 153 := by decide +kernel
theorem d0_153 : decode code 153 = .ok (.invokestatic 37, 3) := by decide +kernel
theorem pd_4 : parseMethodDescriptor "(I)Ljava/lang/Integer;" = some ⟨[.int], some (.object "java/lang/Integer")⟩ := by decide +kernel
theorem b0_156_158 : oBlk code 156 [.astore 19] = some 158 := by decide +kernel
theorem b0_158_162 : oBlk code 158 [.aload 16, .aload 17] = some 162 := by decide +kernel
theorem d0_162 : decode code 162 = .ok (.invokevirtual 43, 3) := by decide +kernel
theorem pd_5 : parseMethodDescriptor "(Ljava/lang/Object;)Z" = some ⟨[(.object "java/lang/Object")], some .boolean⟩ := by decide +kernel
theorem b0_165_167 : oBlk code 165 [.iload 18] = some 167 := by decide +kernel
theorem d0_167 : decode code 167 = .ok (.if_icmp .ne 58, 3) := by decide +kernel
theorem b0_170_174 : oBlk code 170 [.aload 17, .aload 16] = some 174 := by decide +kernel
theorem d0_174 : decode code 174 = .ok (.invokevirtual 43, 3) := by decide +kernel
theorem b0_177_179 : oBlk code 177 [.iload 18] = some 179 := by decide +kernel
theorem d0_179 : decode code 179 = .ok (.if_icmp .ne 46, 3) := by decide +kernel
theorem b0_182_186 : oBlk code 182 [.aload 16, .aload 16] = some 186 := by decide +kernel
theorem d0_186 : decode code 186 = .ok (.invokevirtual 43, 3) := by decide +kernel
theorem d0_189 : decode code 189 = .ok (.ifCond .eq 36, 3) := by decide +kernel
theorem b0_192_196 : oBlk code 192 [.aload 17, .aload 17] = some 196 := by decide +kernel
theorem d0_196 : decode code 196 = .ok (.invokevirtual 43, 3) := by decide +kernel
theorem d0_199 : decode code 199 = .ok (.ifCond .eq 26, 3) := by decide +kernel
theorem b0_202_205 : oBlk code 202 [.aload 16, .aconst_null] = some 205 := by decide +kernel
theorem d0_205 : decode code 205 = .ok (.invokevirtual 43, 3) := by decide +kernel
theorem d0_208 : decode code 208 = .ok (.ifCond .ne 17, 3) := by decide +kernel
theorem b0_211_215 : oBlk code 211 [.aload 16, .aload 19] = some 215 := by decide +kernel
theorem d0_215 : decode code 215 = .ok (.invokevirtual 43, 3) := by decide +kernel
theorem d0_218 : decode code 218 = .ok (.ifCond .ne 7, 3) := by decide +kernel
theorem b0_221_222 : oBlk code 221 [.iconst 1] = some 222 := by decide +kernel
theorem d0_222 : decode code 222 = .ok (.goto 4, 3) := by decide +kernel
theorem d0_226 : decode code 226 = .ok (.ireturn, 1) := by decide +kernel
theorem b0_145_146 : oBlk code 145 [.iconst 1] = some 146 := by decide +kernel
theorem d0_146 : decode code 146 = .ok (.goto 4, 3) := by decide +kernel
theorem b0_150_152 : oBlk code 150 [.istore 18] = some 152 := by decide +kernel
theorem b0_95_97 : oBlk code 95 [.lload 4] = some 97 := by decide +kernel
theorem b0_83_92 : oBlk code 83 [.lload 4, .lload 7, .iconst 1, .lushr, .lconst 1, .lor, .ladd] = some 92 := by decide +kernel
theorem d0_92 : decode code 92 = .ok (.goto 5, 3) := by decide +kernel
theorem b0_72_73 : oBlk code 72 [.lload_n 2] = some 73 := by decide +kernel
theorem b0_63_69 : oBlk code 63 [.lload_n 2, .lload 7, .lconst 1, .lor, .ladd] = some 69 := by decide +kernel
theorem d0_69 : decode code 69 = .ok (.goto 4, 3) := by decide +kernel
theorem b0_53_54 : oBlk code 53 [.iload_n 0] = some 54 := by decide +kernel
theorem b0_43_50 : oBlk code 43 [.iload_n 0, .lload 7, .l2i, .iconst 1, .ior, .iadd] = some 50 := by decide +kernel
theorem d0_50 : decode code 50 = .ok (.goto 4, 3) := by decide +kernel
theorem b0_32_34 : oBlk code 32 [.iload 9] = some 34 := by decide +kernel
theorem b0_15_25 : oBlk code 15 [.iload 9, .iconst 1, .iadd, .iload 6, .bipush 8, .iushr, .iconst 4] = some 25 := by decide +kernel
theorem d0_25 : decode code 25 = .ok (.irem, 1) := by decide +kernel
theorem b0_26_28 : oBlk code 26 [.iadd, .iconst 5] = some 28 := by decide +kernel
theorem d0_28 : decode code 28 = .ok (.irem, 1) := by decide +kernel
theorem d0_29 : decode code 29 = .ok (.goto 5, 3) := by decide +kernel
set_option maxRecDepth 65536 in
set_option maxHeartbeats 40000000 in
theorem rm_st (l : Launch) (Z : State) (a0 : Array Value) (hw : ∀ d ∈ tables_1, d.before a0 Z = true) (A : Nat → Addr) (hen : OEnum Z "com/example/laden_barge/ladenbarge/model/BatchState" "Lcom/example/laden_barge/ladenbarge/model/BatchState;" ["QUEUED", "IN_PROGRESS", "COMPLETED", "FAILED", "NOT_PROCESSED"] A) (t : Nat) (ht : t < 5) (h0 : Heap) (hE0 : Ext Z.heap h0)  :
    OCtr l Z (⟨"com/example/laden_barge/ladenbarge/service/InternalBatchEqualsPinLaw", "st", "(I)Lcom/example/laden_barge/ladenbarge/model/BatchState;"⟩ : MethodName) method_2_code 1 (some (.object "com/example/laden_barge/ladenbarge/model/BatchState")) ({ frames := 0, cells := 0, slots := 0, locals := 0 } : Room) #[(.int (Int32.ofNat t))] h0 (fun v h => v = some (.ref (A t)) ∧ h0 = h) := by
  refine o_body (ls0 := #[.val (.int (Int32.ofNat t))]) (plainFor_of_name pn_0) hE0 (fun m => by first | (simp [entryFrame, mkF, argsToLocals, Value.category]; done) | rfl) ?_
  intro pG eG sG mG bG meG cG
  refine o_blk (pc' := 1) (st' := [(.int (Int32.ofNat t))]) (ls' := #[.val (.int (Int32.ofNat t))]) b1_0_1 rfl ?_
  refine o_if (pc' := 8) (pc'' := 4) d1_1 (by decide) (by decide) rfl (fun (hc1_1 : ¬ (Int32.ofNat t) = 0) => ?_) (fun (hc1_1 : (Int32.ofNat t) = 0) => ?_)
  ·
    have thc1_1 : ¬ t = 0 := fun q => hc1_1 (by rw [q]; rfl)
    refine o_blk (pc' := 10) (st' := [(.int (1 : Int32)), (.int (Int32.ofNat t))]) (ls' := #[.val (.int (Int32.ofNat t))]) b1_8_10 rfl ?_
    refine o_ic (pc' := 17) (pc'' := 13) d1_10 (by decide) (by decide) rfl (fun (hc10_2 : ¬ (Int32.ofNat t) = (1 : Int32)) => ?_) (fun (hc10_2 : (Int32.ofNat t) = (1 : Int32)) => ?_)
    ·
      have thc10_2 : ¬ t = 1 := fun q => hc10_2 (by rw [q]; rfl)
      refine o_blk (pc' := 19) (st' := [(.int (2 : Int32)), (.int (Int32.ofNat t))]) (ls' := #[.val (.int (Int32.ofNat t))]) b1_17_19 rfl ?_
      refine o_ic (pc' := 26) (pc'' := 22) d1_19 (by decide) (by decide) rfl (fun (hc19_3 : ¬ (Int32.ofNat t) = (2 : Int32)) => ?_) (fun (hc19_3 : (Int32.ofNat t) = (2 : Int32)) => ?_)
      ·
        have thc19_3 : ¬ t = 2 := fun q => hc19_3 (by rw [q]; rfl)
        refine o_blk (pc' := 28) (st' := [(.int (3 : Int32)), (.int (Int32.ofNat t))]) (ls' := #[.val (.int (Int32.ofNat t))]) b1_26_28 rfl ?_
        refine o_ic (pc' := 35) (pc'' := 31) d1_28 (by decide) (by decide) rfl (fun (hc28_4 : ¬ (Int32.ofNat t) = (3 : Int32)) => ?_) (fun (hc28_4 : (Int32.ofNat t) = (3 : Int32)) => ?_)
        ·
          have thc28_4 : ¬ t = 3 := fun q => hc28_4 (by rw [q]; rfl)
          refine o_getS (pc' := 38) (v := (.ref (A 4))) (own_word hw 25 rfl) (hen 4 "NOT_PROCESSED" rfl).1 d1_35 rfl ?_
          exact o_retA d1_38 (by decide) (by decide) rfl rfl rfl ⟨by rw [show t = 4 by omega], rfl⟩
        ·
          have thc28_4 : t = 3 := own_tag (by omega) (by omega) hc28_4
          refine o_getS (pc' := 34) (v := (.ref (A 3))) (own_word hw 8 rfl) (hen 3 "FAILED" rfl).1 d1_31 rfl ?_
          exact o_retA d1_34 (by decide) (by decide) rfl rfl rfl ⟨by rw [show t = 3 by omega], rfl⟩
      ·
        have thc19_3 : t = 2 := own_tag (by omega) (by omega) hc19_3
        refine o_getS (pc' := 25) (v := (.ref (A 2))) (own_word hw 44 rfl) (hen 2 "COMPLETED" rfl).1 d1_22 rfl ?_
        exact o_retA d1_25 (by decide) (by decide) rfl rfl rfl ⟨by rw [show t = 2 by omega], rfl⟩
    ·
      have thc10_2 : t = 1 := own_tag (by omega) (by omega) hc10_2
      refine o_getS (pc' := 16) (v := (.ref (A 1))) (own_word hw 46 rfl) (hen 1 "IN_PROGRESS" rfl).1 d1_13 rfl ?_
      exact o_retA d1_16 (by decide) (by decide) rfl rfl rfl ⟨by rw [show t = 1 by omega], rfl⟩
  ·
    have thc1_1 : t = 0 := own_tag (by omega) (by omega) hc1_1
    refine o_getS (pc' := 7) (v := (.ref (A 0))) (own_word hw 63 rfl) (hen 0 "QUEUED" rfl).1 d1_4 rfl ?_
    exact o_retA d1_7 (by decide) (by decide) rfl rfl rfl ⟨by rw [show t = 0 by omega], rfl⟩
set_option maxRecDepth 65536 in
set_option maxHeartbeats 40000000 in
theorem rm_init (l : Launch) (Z : State) (a0 : Array Value) (hw : ∀ d ∈ tables_1, d.before a0 Z = true) (A : Nat → Addr) (hen : OEnum Z "com/example/laden_barge/ladenbarge/model/BatchState" "Lcom/example/laden_barge/ladenbarge/model/BatchState;" ["QUEUED", "IN_PROGRESS", "COMPLETED", "FAILED", "NOT_PROCESSED"] A) (n : Int32) (t : Nat) (r f : Int64) (h0 : Heap) (hE0 : Ext Z.heap h0) (a : Addr) (na : Z.heap.size ≤ a) (E : Exa Z h0 a "com/example/laden_barge/ladenbarge/service/InternalBatch") (G0 : Fld Z h0 a "com/example/laden_barge/ladenbarge/service/InternalBatch" "number" "I" (.int (0 : Int32))) (G1 : Fld Z h0 a "com/example/laden_barge/ladenbarge/service/InternalBatch" "state" "Lcom/example/laden_barge/ladenbarge/model/BatchState;" .null) (G2 : Fld Z h0 a "com/example/laden_barge/ladenbarge/service/InternalBatch" "records" "J" (.long (0 : Int64))) (G3 : Fld Z h0 a "com/example/laden_barge/ladenbarge/service/InternalBatch" "recordsFailed" "J" (.long (0 : Int64))) :
    OCtr l Z (⟨"com/example/laden_barge/ladenbarge/service/InternalBatch", "<init>", "(ILcom/example/laden_barge/ladenbarge/model/BatchState;JJ)V"⟩ : MethodName) prog_46_method_1_code 7 none ({ frames := 1, cells := 0, slots := 0, locals := 12 } : Room) #[(.ref a), (.int n), (.ref (A t)), (.long r), (.long f)] h0 (fun v h => v = none ∧ OBat Z h a n (.ref (A t)) r f ∧ Keep h0 h [a]) := by
  refine o_body (ls0 := #[.val (.ref a), .val (.int n), .val (.ref (A t)), .val (.long r), .second, .val (.long f), .second]) (plainFor_of_name pn_1) hE0 (fun m => by first | (simp [entryFrame, mkF, argsToLocals, Value.category]; done) | rfl) ?_
  intro pG eG sG mG bG meG cG
  refine o_blk (pc' := 1) (st' := [(.ref a)]) (ls' := #[.val (.ref a), .val (.int n), .val (.ref (A t)), .val (.long r), .second, .val (.long f), .second]) b2_0_1 rfl ?_
  refine o_initO (W := 0) (pc' := 4) (own_word hw 14 rfl) (own_word hw 15 rfl) (own_word hw 16 rfl) d2_1 rfl (Nat.le_of_eq rfl) (by decide) (by decide) rfl ?_
  refine o_blk (pc' := 6) (st' := [(.int n), (.ref a)]) (ls' := #[.val (.ref a), .val (.int n), .val (.ref (A t)), .val (.long r), .second, .val (.long f), .second]) b2_4_6 rfl ?_
  refine o_putF (host := "") (ty := .int) (pc' := 9) (Or.inl (own_word hw 17 rfl)) G0 E (Or.inr ⟨(own_word hw 18 rfl), rfl, rfl⟩) (own_word hw 2 rfl) (by decide) rfl rfl na d2_6 rfl ?_
  intro h1 W1
  have F2 := E.wr W1
  have F3 := G0.same W1
  have F4 := G1.other W1 (Or.inr (slot_ne (t := (.object "com/example/laden_barge/ladenbarge/model/BatchState")) (t' := .int) (Or.inr (own_word hw 20 rfl)) (Or.inr (own_word hw 18 rfl)) (by decide) (by decide) (by decide)))
  have F5 := G2.other W1 (Or.inr (slot_ne (t := .long) (t' := .int) (Or.inr (own_word hw 22 rfl)) (Or.inr (own_word hw 18 rfl)) (by decide) (by decide) (by decide)))
  have F6 := G3.other W1 (Or.inr (slot_ne (t := .long) (t' := .int) (Or.inr (own_word hw 24 rfl)) (Or.inr (own_word hw 18 rfl)) (by decide) (by decide) (by decide)))
  have Kp7 := (Keep.refl h0 [a]).wr W1 (Or.inl (List.mem_singleton.mpr rfl))
  refine o_blk (pc' := 11) (st' := [(.ref (A t)), (.ref a)]) (ls' := #[.val (.ref a), .val (.int n), .val (.ref (A t)), .val (.long r), .second, .val (.long f), .second]) b2_9_11 rfl ?_
  refine o_putF (host := "") (ty := (.object "com/example/laden_barge/ladenbarge/model/BatchState")) (pc' := 14) (Or.inl (own_word hw 19 rfl)) F4 F2 (Or.inr ⟨(own_word hw 20 rfl), rfl, rfl⟩) (own_word hw 2 rfl) (by decide) rfl rfl na d2_11 rfl ?_
  intro h8 W8
  have F9 := F2.wr W8
  have F10 := F3.other W8 (Or.inr (slot_ne (t := .int) (t' := (.object "com/example/laden_barge/ladenbarge/model/BatchState")) (Or.inr (own_word hw 18 rfl)) (Or.inr (own_word hw 20 rfl)) (by decide) (by decide) (by decide)))
  have F11 := F4.same W8
  have F12 := F5.other W8 (Or.inr (slot_ne (t := .long) (t' := (.object "com/example/laden_barge/ladenbarge/model/BatchState")) (Or.inr (own_word hw 22 rfl)) (Or.inr (own_word hw 20 rfl)) (by decide) (by decide) (by decide)))
  have F13 := F6.other W8 (Or.inr (slot_ne (t := .long) (t' := (.object "com/example/laden_barge/ladenbarge/model/BatchState")) (Or.inr (own_word hw 24 rfl)) (Or.inr (own_word hw 20 rfl)) (by decide) (by decide) (by decide)))
  have Kp14 := Kp7.wr W8 (Or.inl (List.mem_singleton.mpr rfl))
  refine o_blk (pc' := 16) (st' := [(.long r), (.ref a)]) (ls' := #[.val (.ref a), .val (.int n), .val (.ref (A t)), .val (.long r), .second, .val (.long f), .second]) b2_14_16 rfl ?_
  refine o_putF (host := "") (ty := .long) (pc' := 19) (Or.inl (own_word hw 21 rfl)) F12 F9 (Or.inr ⟨(own_word hw 22 rfl), rfl, rfl⟩) (own_word hw 2 rfl) (by decide) rfl rfl na d2_16 rfl ?_
  intro h15 W15
  have F16 := F9.wr W15
  have F17 := F10.other W15 (Or.inr (slot_ne (t := .int) (t' := .long) (Or.inr (own_word hw 18 rfl)) (Or.inr (own_word hw 22 rfl)) (by decide) (by decide) (by decide)))
  have F18 := F11.other W15 (Or.inr (slot_ne (t := (.object "com/example/laden_barge/ladenbarge/model/BatchState")) (t' := .long) (Or.inr (own_word hw 20 rfl)) (Or.inr (own_word hw 22 rfl)) (by decide) (by decide) (by decide)))
  have F19 := F12.same W15
  have F20 := F13.other W15 (Or.inr (slot_ne (t := .long) (t' := .long) (Or.inr (own_word hw 24 rfl)) (Or.inr (own_word hw 22 rfl)) (by decide) (by decide) (by decide)))
  have Kp21 := Kp14.wr W15 (Or.inl (List.mem_singleton.mpr rfl))
  refine o_blk (pc' := 22) (st' := [(.long f), (.ref a)]) (ls' := #[.val (.ref a), .val (.int n), .val (.ref (A t)), .val (.long r), .second, .val (.long f), .second]) b2_19_22 rfl ?_
  refine o_putF (host := "") (ty := .long) (pc' := 25) (Or.inl (own_word hw 23 rfl)) F20 F16 (Or.inr ⟨(own_word hw 24 rfl), rfl, rfl⟩) (own_word hw 2 rfl) (by decide) rfl rfl na d2_22 rfl ?_
  intro h22 W22
  have F23 := F16.wr W22
  have F24 := F17.other W22 (Or.inr (slot_ne (t := .int) (t' := .long) (Or.inr (own_word hw 18 rfl)) (Or.inr (own_word hw 24 rfl)) (by decide) (by decide) (by decide)))
  have F25 := F18.other W22 (Or.inr (slot_ne (t := (.object "com/example/laden_barge/ladenbarge/model/BatchState")) (t' := .long) (Or.inr (own_word hw 20 rfl)) (Or.inr (own_word hw 24 rfl)) (by decide) (by decide) (by decide)))
  have F26 := F19.other W22 (Or.inr (slot_ne (t := .long) (t' := .long) (Or.inr (own_word hw 22 rfl)) (Or.inr (own_word hw 24 rfl)) (by decide) (by decide) (by decide)))
  have F27 := F20.same W22
  have Kp28 := Kp21.wr W22 (Or.inl (List.mem_singleton.mpr rfl))
  exact o_retV d2_25 (by decide) (by decide) rfl ⟨rfl, ⟨F23, F24, F25, F26, F27⟩, Kp28⟩
set_option maxRecDepth 65536 in
set_option maxHeartbeats 40000000 in
theorem rm_eq1 (l : Launch) (Z : State) (a0 : Array Value) (hw : ∀ d ∈ tables_1, d.before a0 Z = true) (A : Nat → Addr) (hen : OEnum Z "com/example/laden_barge/ladenbarge/model/BatchState" "Lcom/example/laden_barge/ladenbarge/model/BatchState;" ["QUEUED", "IN_PROGRESS", "COMPLETED", "FAILED", "NOT_PROCESSED"] A) (h0 : Heap) (hE0 : Ext Z.heap h0) (a : Addr) (n1 : Int32) (t1 : Nat) (ht1 : t1 < 5) (r1 f1 : Int64) (B1 : OBat Z h0 a n1 (.ref (A t1)) r1 f1) (b : Addr) (n2 : Int32) (t2 : Nat) (ht2 : t2 < 5) (r2 f2 : Int64) (B2 : OBat Z h0 b n2 (.ref (A t2)) r2 f2) :
    OCtr l Z (⟨"com/example/laden_barge/ladenbarge/service/InternalBatch", "equals", "(Ljava/lang/Object;)Z"⟩ : MethodName) prog_46_method_6_code 3 (some .boolean) ({ frames := 0, cells := 0, slots := 0, locals := 0 } : Room) #[(.ref a), (.ref b)] h0 (fun v h => v = some (.int (if n1 = n2 ∧ t1 = t2 ∧ r1 = r2 ∧ f1 = f2 then 1 else 0)) ∧ h0 = h) := by
  refine o_body (ls0 := #[.val (.ref a), .val (.ref b), .unset]) (plainFor_of_name pn_1) hE0 (fun m => by first | (simp [entryFrame, mkF, argsToLocals, Value.category]; done) | rfl) ?_
  intro pG eG sG mG bG meG cG
  refine o_blk (pc' := 1) (st' := [(.ref b)]) (ls' := #[.val (.ref a), .val (.ref b), .unset]) b5_0_1 rfl ?_
  refine o_instY (pc' := 4) (own_word hw 39 rfl) (Ins.self B2.1) d5_1 rfl ?_
  refine o_ifN (pc' := 7) d5_4 rfl (by decide : ¬ (1 : Int32) = 0) ?_
  refine o_blk (pc' := 8) (st' := [(.ref b)]) (ls' := #[.val (.ref a), .val (.ref b), .unset]) b5_7_8 rfl ?_
  refine o_cast (pc' := 11) (own_word hw 39 rfl) (Ins.self B2.1) d5_8 rfl ?_
  refine o_blk (pc' := 12) (st' := []) (ls' := #[.val (.ref a), .val (.ref b), .val (.ref b)]) b5_11_12 rfl ?_
  refine o_blk (pc' := 13) (st' := [(.ref a)]) (ls' := #[.val (.ref a), .val (.ref b), .val (.ref b)]) b5_12_13 rfl ?_
  refine o_getF (host := "") (pc' := 16) (v := (.int n1)) (Or.inl (own_word hw 17 rfl)) B1.2.1 d5_13 rfl ?_
  refine o_blk (pc' := 17) (st' := [(.ref b), (.int n1)]) (ls' := #[.val (.ref a), .val (.ref b), .val (.ref b)]) b5_16_17 rfl ?_
  refine o_getF (host := "") (pc' := 20) (v := (.int n2)) (Or.inl (own_word hw 17 rfl)) B2.2.1 d5_17 rfl ?_
  refine o_ic (pc' := 62) (pc'' := 23) d5_20 (by decide) (by decide) rfl (fun (hc20_1 : ¬ n1 = n2) => ?_) (fun (hc20_1 : n1 = n2) => ?_)
  ·
    refine o_blk (pc' := 63) (st' := [(.int (0 : Int32))]) (ls' := #[.val (.ref a), .val (.ref b), .val (.ref b)]) b5_62_63 rfl ?_
    exact o_retZ (w := 0) d5_63 (by decide) (by decide) rfl (by decide) ⟨by simp [*], rfl⟩
  ·
    refine o_blk (pc' := 24) (st' := [(.ref a)]) (ls' := #[.val (.ref a), .val (.ref b), .val (.ref b)]) b5_23_24 rfl ?_
    refine o_getF (host := "") (pc' := 27) (v := (.ref (A t1))) (Or.inl (own_word hw 19 rfl)) B1.2.2.1 d5_24 rfl ?_
    refine o_blk (pc' := 28) (st' := [(.ref b), (.ref (A t1))]) (ls' := #[.val (.ref a), .val (.ref b), .val (.ref b)]) b5_27_28 rfl ?_
    refine o_getF (host := "") (pc' := 31) (v := (.ref (A t2))) (Or.inl (own_word hw 19 rfl)) B2.2.2.1 d5_28 rfl ?_
    refine o_ane (A := A) (i := t1) (j := t2) (pc' := 62) (pc'' := 34) (fun q => hen.inj (by decide) ht1 ht2 q) d5_31 (by decide) (by decide) rfl (fun (hc31_2 : ¬ t1 = t2) => ?_) (fun (hc31_2 : t1 = t2) => ?_)
    ·
      refine o_blk (pc' := 63) (st' := [(.int (0 : Int32))]) (ls' := #[.val (.ref a), .val (.ref b), .val (.ref b)]) b5_62_63 rfl ?_
      exact o_retZ (w := 0) d5_63 (by decide) (by decide) rfl (by decide) ⟨by simp [*], rfl⟩
    ·
      refine o_blk (pc' := 35) (st' := [(.ref a)]) (ls' := #[.val (.ref a), .val (.ref b), .val (.ref b)]) b5_34_35 rfl ?_
      refine o_getF (host := "") (pc' := 38) (v := (.long r1)) (Or.inl (own_word hw 21 rfl)) B1.2.2.2.1 d5_35 rfl ?_
      refine o_blk (pc' := 39) (st' := [(.ref b), (.long r1)]) (ls' := #[.val (.ref a), .val (.ref b), .val (.ref b)]) b5_38_39 rfl ?_
      refine o_getF (host := "") (pc' := 42) (v := (.long r2)) (Or.inl (own_word hw 21 rfl)) B2.2.2.2.1 d5_39 rfl ?_
      refine o_blk (pc' := 43) (st' := [(.int (XT.cmpL r1 r2))]) (ls' := #[.val (.ref a), .val (.ref b), .val (.ref b)]) b5_42_43 rfl ?_
      refine o_if (pc' := 62) (pc'' := 46) d5_43 (by decide) (by decide) rfl (fun (hc43_3 : ¬ (XT.cmpL r1 r2) = 0) => ?_) (fun (hc43_3 : (XT.cmpL r1 r2) = 0) => ?_)
      ·
        have zhc43_3 : ¬ r1 = r2 := fun q => hc43_3 ((own_cmp0 _ _).mpr q)
        refine o_blk (pc' := 63) (st' := [(.int (0 : Int32))]) (ls' := #[.val (.ref a), .val (.ref b), .val (.ref b)]) b5_62_63 rfl ?_
        exact o_retZ (w := 0) d5_63 (by decide) (by decide) rfl (by decide) ⟨by simp [*], rfl⟩
      ·
        have zhc43_3 : r1 = r2 := (own_cmp0 _ _).mp hc43_3
        refine o_blk (pc' := 47) (st' := [(.ref a)]) (ls' := #[.val (.ref a), .val (.ref b), .val (.ref b)]) b5_46_47 rfl ?_
        refine o_getF (host := "") (pc' := 50) (v := (.long f1)) (Or.inl (own_word hw 23 rfl)) B1.2.2.2.2 d5_47 rfl ?_
        refine o_blk (pc' := 51) (st' := [(.ref b), (.long f1)]) (ls' := #[.val (.ref a), .val (.ref b), .val (.ref b)]) b5_50_51 rfl ?_
        refine o_getF (host := "") (pc' := 54) (v := (.long f2)) (Or.inl (own_word hw 23 rfl)) B2.2.2.2.2 d5_51 rfl ?_
        refine o_blk (pc' := 55) (st' := [(.int (XT.cmpL f1 f2))]) (ls' := #[.val (.ref a), .val (.ref b), .val (.ref b)]) b5_54_55 rfl ?_
        refine o_if (pc' := 62) (pc'' := 58) d5_55 (by decide) (by decide) rfl (fun (hc55_4 : ¬ (XT.cmpL f1 f2) = 0) => ?_) (fun (hc55_4 : (XT.cmpL f1 f2) = 0) => ?_)
        ·
          have zhc55_4 : ¬ f1 = f2 := fun q => hc55_4 ((own_cmp0 _ _).mpr q)
          refine o_blk (pc' := 63) (st' := [(.int (0 : Int32))]) (ls' := #[.val (.ref a), .val (.ref b), .val (.ref b)]) b5_62_63 rfl ?_
          exact o_retZ (w := 0) d5_63 (by decide) (by decide) rfl (by decide) ⟨by simp [*], rfl⟩
        ·
          have zhc55_4 : f1 = f2 := (own_cmp0 _ _).mp hc55_4
          refine o_blk (pc' := 59) (st' := [(.int (1 : Int32))]) (ls' := #[.val (.ref a), .val (.ref b), .val (.ref b)]) b5_58_59 rfl ?_
          refine o_goto (pc' := 63) d5_59 (by decide) (by decide) ?_
          exact o_retZ (w := 0) d5_63 (by decide) (by decide) rfl (by decide) ⟨by simp [*], rfl⟩
set_option maxRecDepth 65536 in
set_option maxHeartbeats 40000000 in
theorem rm_eq2 (l : Launch) (Z : State) (a0 : Array Value) (hw : ∀ d ∈ tables_1, d.before a0 Z = true)  (h0 : Heap) (hE0 : Ext Z.heap h0) (a : Addr) :
    OCtr l Z (⟨"com/example/laden_barge/ladenbarge/service/InternalBatch", "equals", "(Ljava/lang/Object;)Z"⟩ : MethodName) prog_46_method_6_code 3 (some .boolean) ({ frames := 0, cells := 0, slots := 0, locals := 0 } : Room) #[(.ref a), .null] h0 (fun v h => v = some (.int 0) ∧ h0 = h) := by
  refine o_body (ls0 := #[.val (.ref a), .val .null, .unset]) (plainFor_of_name pn_1) hE0 (fun m => by first | (simp [entryFrame, mkF, argsToLocals, Value.category]; done) | rfl) ?_
  intro pG eG sG mG bG meG cG
  refine o_blk (pc' := 1) (st' := [.null]) (ls' := #[.val (.ref a), .val .null, .unset]) b5_0_1 rfl ?_
  refine o_instNull (pc' := 4) d5_1 rfl ?_
  refine o_ifY (pc' := 62) d5_4 (by decide) (by decide) (rfl : (0 : Int32) = 0) ?_
  refine o_blk (pc' := 63) (st' := [(.int (0 : Int32))]) (ls' := #[.val (.ref a), .val .null, .unset]) b5_62_63 rfl ?_
  exact o_retZ (w := 0) d5_63 (by decide) (by decide) rfl (by decide) ⟨rfl, rfl⟩
set_option maxRecDepth 65536 in
set_option maxHeartbeats 40000000 in
theorem rm_eq3 (l : Launch) (Z : State) (a0 : Array Value) (hw : ∀ d ∈ tables_1, d.before a0 Z = true)  (h0 : Heap) (hE0 : Ext Z.heap h0) (a b : Addr) (E2 : Exa Z h0 b "java/lang/Integer") :
    OCtr l Z (⟨"com/example/laden_barge/ladenbarge/service/InternalBatch", "equals", "(Ljava/lang/Object;)Z"⟩ : MethodName) prog_46_method_6_code 3 (some .boolean) ({ frames := 0, cells := 0, slots := 0, locals := 0 } : Room) #[(.ref a), (.ref b)] h0 (fun v h => v = some (.int 0) ∧ h0 = h) := by
  refine o_body (ls0 := #[.val (.ref a), .val (.ref b), .unset]) (plainFor_of_name pn_1) hE0 (fun m => by first | (simp [entryFrame, mkF, argsToLocals, Value.category]; done) | rfl) ?_
  intro pG eG sG mG bG meG cG
  refine o_blk (pc' := 1) (st' := [(.ref b)]) (ls' := #[.val (.ref a), .val (.ref b), .unset]) b5_0_1 rfl ?_
  refine o_instNo (pc' := 4) (own_word hw 39 rfl) E2 (own_no (own_word hw 41 rfl) (own_word hw 2 rfl) (NS.step (own_word hw 41 rfl) (NS.step (own_word hw 42 rfl) (own_root (own_word hw 43 rfl) (own_word hw 2 rfl) (by decide)) (by decide)) (by decide)) (by decide)) d5_1 rfl ?_
  refine o_ifY (pc' := 62) d5_4 (by decide) (by decide) (rfl : (0 : Int32) = 0) ?_
  refine o_blk (pc' := 63) (st' := [(.int (0 : Int32))]) (ls' := #[.val (.ref a), .val (.ref b), .unset]) b5_62_63 rfl ?_
  exact o_retZ (w := 0) d5_63 (by decide) (by decide) rfl (by decide) ⟨rfl, rfl⟩
set_option maxRecDepth 65536 in
set_option maxHeartbeats 40000000 in
theorem rm_num (l : Launch) (Z : State) (a0 : Array Value) (hw : ∀ d ∈ tables_1, d.before a0 Z = true) (a : Addr) (h0 : Heap) (hE0 : Ext Z.heap h0)  :
    OCtr l Z (⟨"java/lang/Number", "<init>", "()V"⟩ : MethodName) jdk_18_method_1_code 1 none ({ frames := 1, cells := 0, slots := 0, locals := 12 } : Room) #[(.ref a)] h0 (fun v h => v = none ∧ h0 = h) := by
  refine o_body (ls0 := #[.val (.ref a)]) (plainFor_of_name pn_2) hE0 (fun m => by first | (simp [entryFrame, mkF, argsToLocals, Value.category]; done) | rfl) ?_
  intro pG eG sG mG bG meG cG
  refine o_blk (pc' := 1) (st' := [(.ref a)]) (ls' := #[.val (.ref a)]) b7_0_1 rfl ?_
  refine o_initO (W := 0) (pc' := 4) (own_word hw 60 rfl) (own_word hw 15 rfl) (own_word hw 16 rfl) d7_1 rfl (Nat.le_of_eq rfl) (by decide) (by decide) rfl ?_
  exact o_retV d7_4 (by decide) (by decide) rfl ⟨rfl, rfl⟩
set_option maxRecDepth 65536 in
set_option maxHeartbeats 40000000 in
theorem rm_int (l : Launch) (Z : State) (a0 : Array Value) (hw : ∀ d ∈ tables_1, d.before a0 Z = true) (n : Int32) (h0 : Heap) (hE0 : Ext Z.heap h0) (a : Addr) (na : Z.heap.size ≤ a) (E : Exa Z h0 a "java/lang/Integer") (G0 : Fld Z h0 a "java/lang/Integer" "value" "I" (.int (0 : Int32))) :
    OCtr l Z (⟨"java/lang/Integer", "<init>", "(I)V"⟩ : MethodName) jdk_33_method_23_code 2 none ({ frames := 2, cells := 0, slots := 0, locals := 24 } : Room) #[(.ref a), (.int n)] h0 (fun v h => v = none ∧ Exa Z h a "java/lang/Integer" ∧ Keep h0 h [a]) := by
  refine o_body (ls0 := #[.val (.ref a), .val (.int n)]) (plainFor_of_name pn_3) hE0 (fun m => by first | (simp [entryFrame, mkF, argsToLocals, Value.category]; done) | rfl) ?_
  intro pG eG sG mG bG meG cG
  refine o_blk (pc' := 1) (st' := [(.ref a)]) (ls' := #[.val (.ref a), .val (.int n)]) b6_0_1 rfl ?_
  refine o_callI (W := 0) (argsL := []) (rest := []) (pc' := 4) rfl (own_word hw 54 rfl) (own_word hw 55 rfl) (own_word hw 59 rfl) (own_word hw 58 rfl) (by decide) (fun hE => rm_num l Z a0 hw a h0 hE) d6_1 pd_0 rfl rfl rfl (Nat.le_of_eq rfl) (by decide) (by decide) (by decide) (by decide) rfl ?_
  rintro _ _ ⟨rfl, rfl⟩ hs1
  refine o_blk (pc' := 6) (st' := [(.int n), (.ref a)]) (ls' := #[.val (.ref a), .val (.int n)]) b6_4_6 rfl ?_
  refine o_putF (host := "") (ty := .int) (pc' := 9) (Or.inl (own_word hw 61 rfl)) G0 E (Or.inr ⟨(own_word hw 62 rfl), rfl, rfl⟩) (own_word hw 49 rfl) (by decide) rfl rfl na d6_6 rfl ?_
  intro h2 W2
  have F3 := E.wr W2
  have F4 := G0.same W2
  have Kp5 := (Keep.refl h0 [a]).wr W2 (Or.inl (List.mem_singleton.mpr rfl))
  exact o_retV d6_9 (by decide) (by decide) rfl ⟨rfl, F3, Kp5⟩
set_option maxRecDepth 65536 in
set_option maxHeartbeats 40000000 in
theorem rm_box (l : Launch) (Z : State) (a0 : Array Value) (hw : ∀ d ∈ tables_1, d.before a0 Z = true) (ca : Addr) (cc : Cell) (HC : OCache Z ca cc) (n : Int32) (h0 : Heap) (hE0 : Ext Z.heap h0)  :
    OCtr l Z (⟨"java/lang/Integer", "valueOf", "(I)Ljava/lang/Integer;"⟩ : MethodName) jdk_33_method_22_code 1 (some (.object "java/lang/Integer")) ({ frames := 3, cells := 1, slots := 1, locals := 38 } : Room) #[(.int n)] h0 (fun v h => ∃ b : Addr, v = some (.ref b) ∧ Exa Z h b "java/lang/Integer" ∧ Keep h0 h []) := by
  refine o_body (ls0 := #[.val (.int n)]) (plainFor_of_name pn_3) hE0 (fun m => by first | (simp [entryFrame, mkF, argsToLocals, Value.category]; done) | rfl) ?_
  intro pG eG sG mG bG meG cG
  refine o_blk (pc' := 3) (st' := [(.int (-128 : Int32)), (.int n)]) (ls' := #[.val (.int n)]) b4_0_3 rfl ?_
  refine o_ic (pc' := 23) (pc'' := 6) d4_3 (by decide) (by decide) rfl (fun (hc3_1 : n < (-128 : Int32)) => ?_) (fun (hc3_1 : ¬ n < (-128 : Int32)) => ?_)
  ·
    have hlo := hc3_1
    refine o_newO (pc' := 26) (own_word hw 48 rfl) (own_word hw 49 rfl) (own_word hw 29 rfl) d4_23 (by decide) (by decide) rfl ?_
    intro h2 a2 ea2 na2 X2 E2 D2
    have F3 : Fld Z h2 a2 "java/lang/Integer" "value" "I" (.int (0 : Int32)) := D2 (Or.inr (own_word hw 62 rfl)) (ty := .int) (by decide)
    refine o_blk (pc' := 28) (st' := [(.int n), (.ref a2), (.ref a2)]) (ls' := #[.val (.int n)]) b4_26_28 rfl ?_
    refine o_callI (W := 1) (argsL := [(.int n)]) (rest := [(.ref a2)]) (pc' := 31) rfl (own_word hw 50 rfl) (own_word hw 51 rfl) (own_word hw 53 rfl) (own_word hw 29 rfl) (by decide) (fun hE => rm_int l Z a0 hw n h2 hE a2 na2 E2 F3) d4_28 pd_1 rfl rfl rfl (Nat.le_of_eq rfl) (by decide) (by decide) (by decide) (by decide) rfl ?_
    rintro _ h9 ⟨rfl, E9, K9⟩ hs4
    exact o_retA d4_31 (by decide) (by decide) rfl rfl rfl ⟨a2, rfl, E9, Keep.trans ((Keep.refl h0 []).ext X2) K9 (fun z hz => Or.inr (by rw [List.mem_singleton.mp hz, ea2]; exact Nat.le_refl _))⟩
  ·
    have hlo := hc3_1
    refine o_blk (pc' := 7) (st' := [(.int n)]) (ls' := #[.val (.int n)]) b4_6_7 rfl ?_
    refine o_getS (pc' := 10) (v := (.int (127 : Int32))) (own_word hw 31 rfl) HC.1 d4_7 rfl ?_
    refine o_ic (pc' := 23) (pc'' := 13) d4_10 (by decide) (by decide) rfl (fun (hc10_5 : (127 : Int32) < n) => ?_) (fun (hc10_5 : ¬ (127 : Int32) < n) => ?_)
    ·
      have hhi := hc10_5
      refine o_newO (pc' := 26) (own_word hw 48 rfl) (own_word hw 49 rfl) (own_word hw 29 rfl) d4_23 (by decide) (by decide) rfl ?_
      intro h6 a6 ea6 na6 X6 E6 D6
      have F7 : Fld Z h6 a6 "java/lang/Integer" "value" "I" (.int (0 : Int32)) := D6 (Or.inr (own_word hw 62 rfl)) (ty := .int) (by decide)
      refine o_blk (pc' := 28) (st' := [(.int n), (.ref a6), (.ref a6)]) (ls' := #[.val (.int n)]) b4_26_28 rfl ?_
      refine o_callI (W := 1) (argsL := [(.int n)]) (rest := [(.ref a6)]) (pc' := 31) rfl (own_word hw 50 rfl) (own_word hw 51 rfl) (own_word hw 53 rfl) (own_word hw 29 rfl) (by decide) (fun hE => rm_int l Z a0 hw n h6 hE a6 na6 E6 F7) d4_28 pd_1 rfl rfl rfl (Nat.le_of_eq rfl) (by decide) (by decide) (by decide) (by decide) rfl ?_
      rintro _ h9 ⟨rfl, E9, K9⟩ hs8
      exact o_retA d4_31 (by decide) (by decide) rfl rfl rfl ⟨a6, rfl, E9, Keep.trans ((Keep.refl h0 []).ext X6) K9 (fun z hz => Or.inr (by rw [List.mem_singleton.mp hz, ea6]; exact Nat.le_refl _))⟩
    ·
      have hhi := hc10_5
      refine o_getS (pc' := 16) (v := (.ref ca)) (own_word hw 33 rfl) HC.2.1 d4_13 rfl ?_
      refine o_blk (pc' := 21) (st' := [(.int (n + (128 : Int32))), (.ref ca)]) (ls' := #[.val (.int n)]) b4_16_21 rfl ?_
      obtain ⟨bx, hb1, hb2, -⟩ := HC.2.2.2.2.2 (n + (128 : Int32)) (own_idx hlo hhi HC.2.2.2.1)
      refine o_aaldJ (pc' := 22) (v := .ref bx) (HC.2.2.1.ext hE0) rfl (own_idx hlo hhi HC.2.2.2.1) hb1 d4_21 rfl ?_
      exact o_retA d4_22 (by decide) (by decide) rfl rfl rfl ⟨bx, rfl, hb2.ext hE0, Keep.refl _ _⟩
set_option maxRecDepth 65536 in
set_option maxHeartbeats 40000000 in
theorem rm_law (l : Launch) (Z : State) (a0 : Array Value) (hw : ∀ d ∈ tables_1, d.before a0 Z = true) (A : Nat → Addr) (hen : OEnum Z "com/example/laden_barge/ladenbarge/model/BatchState" "Lcom/example/laden_barge/ladenbarge/model/BatchState;" ["QUEUED", "IN_PROGRESS", "COMPLETED", "FAILED", "NOT_PROCESSED"] A) (ca : Addr) (cc : Cell) (HC : OCache Z ca cc) (p0 p1 : Int32) (q2 q3 : Int64) (p4 : Int32) (q5 : Int64) (h0 : Heap) (hE0 : Ext Z.heap h0)  :
    OCtr l Z x code maxLocals ret room_1 #[(.int p0), (.int p1), (.long q2), (.long q3), (.int p4), (.long q5)] h0 (fun v h => v = some (.int 1)) := by
  refine o_body (ls0 := #[.val (.int p0), .val (.int p1), .val (.long q2), .second, .val (.long q3), .second, .val (.int p4), .val (.long q5), .second, .unset, .unset, .unset, .unset, .unset, .unset, .unset, .unset, .unset, .unset, .unset]) (plainFor_of_name pn_0) hE0 (fun m => by first | (simp [entryFrame, mkF, argsToLocals, Value.category, maxLocals]; done) | rfl) ?_
  intro pG eG sG mG bG meG cG
  refine o_blk (pc' := 1) (st' := [(.int p1)]) (ls' := #[.val (.int p0), .val (.int p1), .val (.long q2), .second, .val (.long q3), .second, .val (.int p4), .val (.long q5), .second, .unset, .unset, .unset, .unset, .unset, .unset, .unset, .unset, .unset, .unset, .unset]) b0_0_1 rfl ?_
  refine o_ldc (pc' := 3) (v := 2147483647) (own_word hw 0 rfl) d0_1 rfl ?_
  refine o_blk (pc' := 5) (st' := [(.int (5 : Int32)), (.int (p1 &&& (2147483647 : Int32)))]) (ls' := #[.val (.int p0), .val (.int p1), .val (.long q2), .second, .val (.long q3), .second, .val (.int p4), .val (.long q5), .second, .unset, .unset, .unset, .unset, .unset, .unset, .unset, .unset, .unset, .unset, .unset]) b0_3_5 rfl ?_
  refine o_irem (pc' := 6) d0_5 (by decide) rfl ?_
  obtain ⟨t1, ht1, ht1e⟩ := own_mod p1 (n := 5) (k := 5) rfl (by decide) (by decide)
  rw [ht1e]
  refine o_blk (pc' := 8) (st' := []) (ls' := #[.val (.int p0), .val (.int p1), .val (.long q2), .second, .val (.long q3), .second, .val (.int p4), .val (.long q5), .second, .val (.int (Int32.ofNat t1)), .unset, .unset, .unset, .unset, .unset, .unset, .unset, .unset, .unset, .unset]) b0_6_8 rfl ?_
  refine o_blk (pc' := 12) (st' := [(.int (p4 &&& (2 : Int32)))]) (ls' := #[.val (.int p0), .val (.int p1), .val (.long q2), .second, .val (.long q3), .second, .val (.int p4), .val (.long q5), .second, .val (.int (Int32.ofNat t1)), .unset, .unset, .unset, .unset, .unset, .unset, .unset, .unset, .unset, .unset]) b0_8_12 rfl ?_
  have J34_2 : ∀ (t2 : Nat) (ht2 : t2 < 5) (hq2 : t1 = t2 ↔ p4 &&& 2 = 0), OG pG l eG room_1 sG mG #[(.int p0), (.int p1), (.long q2), (.long q3), (.int p4), (.long q5)] bG meG cG Z x.cls x.name code maxLocals ret (fun v h => v = some (.int 1)) room_1.cells room_1.slots h0 0 0 (mkF mG 34 #[.val (.int p0), .val (.int p1), .val (.long q2), .second, .val (.long q3), .second, .val (.int p4), .val (.long q5), .second, .val (.int (Int32.ofNat t1)), .unset, .unset, .unset, .unset, .unset, .unset, .unset, .unset, .unset, .unset] [(.int (Int32.ofNat t2))]) := by
    intro t2 ht2 hq2
    refine o_blk (pc' := 36) (st' := []) (ls' := #[.val (.int p0), .val (.int p1), .val (.long q2), .second, .val (.long q3), .second, .val (.int p4), .val (.long q5), .second, .val (.int (Int32.ofNat t1)), .val (.int (Int32.ofNat t2)), .unset, .unset, .unset, .unset, .unset, .unset, .unset, .unset, .unset]) b0_34_36 rfl ?_
    refine o_blk (pc' := 40) (st' := [(.int (p4 &&& (1 : Int32)))]) (ls' := #[.val (.int p0), .val (.int p1), .val (.long q2), .second, .val (.long q3), .second, .val (.int p4), .val (.long q5), .second, .val (.int (Int32.ofNat t1)), .val (.int (Int32.ofNat t2)), .unset, .unset, .unset, .unset, .unset, .unset, .unset, .unset, .unset]) b0_36_40 rfl ?_
    have J54_4 : ∀ (n2 : Int32) (hn2 : p0 = n2 ↔ p4 &&& 1 = 0), OG pG l eG room_1 sG mG #[(.int p0), (.int p1), (.long q2), (.long q3), (.int p4), (.long q5)] bG meG cG Z x.cls x.name code maxLocals ret (fun v h => v = some (.int 1)) room_1.cells room_1.slots h0 0 0 (mkF mG 54 #[.val (.int p0), .val (.int p1), .val (.long q2), .second, .val (.long q3), .second, .val (.int p4), .val (.long q5), .second, .val (.int (Int32.ofNat t1)), .val (.int (Int32.ofNat t2)), .unset, .unset, .unset, .unset, .unset, .unset, .unset, .unset, .unset] [(.int n2)]) := by
      intro n2 hn2
      refine o_blk (pc' := 56) (st' := []) (ls' := #[.val (.int p0), .val (.int p1), .val (.long q2), .second, .val (.long q3), .second, .val (.int p4), .val (.long q5), .second, .val (.int (Int32.ofNat t1)), .val (.int (Int32.ofNat t2)), .val (.int n2), .unset, .unset, .unset, .unset, .unset, .unset, .unset, .unset]) b0_54_56 rfl ?_
      refine o_blk (pc' := 60) (st' := [(.int (p4 &&& (4 : Int32)))]) (ls' := #[.val (.int p0), .val (.int p1), .val (.long q2), .second, .val (.long q3), .second, .val (.int p4), .val (.long q5), .second, .val (.int (Int32.ofNat t1)), .val (.int (Int32.ofNat t2)), .val (.int n2), .unset, .unset, .unset, .unset, .unset, .unset, .unset, .unset]) b0_56_60 rfl ?_
      have J73_6 : ∀ (r2 : Int64) (hr2 : q2 = r2 ↔ p4 &&& 4 = 0), OG pG l eG room_1 sG mG #[(.int p0), (.int p1), (.long q2), (.long q3), (.int p4), (.long q5)] bG meG cG Z x.cls x.name code maxLocals ret (fun v h => v = some (.int 1)) room_1.cells room_1.slots h0 0 0 (mkF mG 73 #[.val (.int p0), .val (.int p1), .val (.long q2), .second, .val (.long q3), .second, .val (.int p4), .val (.long q5), .second, .val (.int (Int32.ofNat t1)), .val (.int (Int32.ofNat t2)), .val (.int n2), .unset, .unset, .unset, .unset, .unset, .unset, .unset, .unset] [(.long r2)]) := by
        intro r2 hr2
        refine o_blk (pc' := 75) (st' := []) (ls' := #[.val (.int p0), .val (.int p1), .val (.long q2), .second, .val (.long q3), .second, .val (.int p4), .val (.long q5), .second, .val (.int (Int32.ofNat t1)), .val (.int (Int32.ofNat t2)), .val (.int n2), .val (.long r2), .second, .unset, .unset, .unset, .unset, .unset, .unset]) b0_73_75 rfl ?_
        refine o_blk (pc' := 80) (st' := [(.int (p4 &&& (8 : Int32)))]) (ls' := #[.val (.int p0), .val (.int p1), .val (.long q2), .second, .val (.long q3), .second, .val (.int p4), .val (.long q5), .second, .val (.int (Int32.ofNat t1)), .val (.int (Int32.ofNat t2)), .val (.int n2), .val (.long r2), .second, .unset, .unset, .unset, .unset, .unset, .unset]) b0_75_80 rfl ?_
        have J97_8 : ∀ (f2 : Int64) (hf2 : q3 = f2 ↔ p4 &&& 8 = 0), OG pG l eG room_1 sG mG #[(.int p0), (.int p1), (.long q2), (.long q3), (.int p4), (.long q5)] bG meG cG Z x.cls x.name code maxLocals ret (fun v h => v = some (.int 1)) room_1.cells room_1.slots h0 0 0 (mkF mG 97 #[.val (.int p0), .val (.int p1), .val (.long q2), .second, .val (.long q3), .second, .val (.int p4), .val (.long q5), .second, .val (.int (Int32.ofNat t1)), .val (.int (Int32.ofNat t2)), .val (.int n2), .val (.long r2), .second, .unset, .unset, .unset, .unset, .unset, .unset] [(.long f2)]) := by
          intro f2 hf2
          refine o_blk (pc' := 99) (st' := []) (ls' := #[.val (.int p0), .val (.int p1), .val (.long q2), .second, .val (.long q3), .second, .val (.int p4), .val (.long q5), .second, .val (.int (Int32.ofNat t1)), .val (.int (Int32.ofNat t2)), .val (.int n2), .val (.long r2), .second, .val (.long f2), .second, .unset, .unset, .unset, .unset]) b0_97_99 rfl ?_
          refine o_newO (pc' := 102) (own_word hw 1 rfl) (own_word hw 2 rfl) (own_word hw 3 rfl) d0_99 (by decide) (by decide) rfl ?_
          intro h9 a9 ea9 na9 X9 E9 D9
          have F10 : Fld Z h9 a9 "com/example/laden_barge/ladenbarge/service/InternalBatch" "number" "I" (.int (0 : Int32)) := D9 (Or.inr (own_word hw 18 rfl)) (ty := .int) (by decide)
          have F11 : Fld Z h9 a9 "com/example/laden_barge/ladenbarge/service/InternalBatch" "state" "Lcom/example/laden_barge/ladenbarge/model/BatchState;" .null := D9 (Or.inr (own_word hw 20 rfl)) (ty := (.object "com/example/laden_barge/ladenbarge/model/BatchState")) (by decide)
          have F12 : Fld Z h9 a9 "com/example/laden_barge/ladenbarge/service/InternalBatch" "records" "J" (.long (0 : Int64)) := D9 (Or.inr (own_word hw 22 rfl)) (ty := .long) (by decide)
          have F13 : Fld Z h9 a9 "com/example/laden_barge/ladenbarge/service/InternalBatch" "recordsFailed" "J" (.long (0 : Int64)) := D9 (Or.inr (own_word hw 24 rfl)) (ty := .long) (by decide)
          refine o_blk (pc' := 106) (st' := [(.int (Int32.ofNat t1)), (.int p0), (.ref a9), (.ref a9)]) (ls' := #[.val (.int p0), .val (.int p1), .val (.long q2), .second, .val (.long q3), .second, .val (.int p4), .val (.long q5), .second, .val (.int (Int32.ofNat t1)), .val (.int (Int32.ofNat t2)), .val (.int n2), .val (.long r2), .second, .val (.long f2), .second, .unset, .unset, .unset, .unset]) b0_102_106 rfl ?_
          refine o_callS (W := 3) (argsL := [(.int (Int32.ofNat t1))]) (rest := [(.int p0), (.ref a9), (.ref a9)]) (pc' := 109) (own_word hw 4 rfl) (own_word hw 5 rfl) (own_word hw 6 rfl) (own_word hw 7 rfl) (by decide) (fun hE => rm_st l Z a0 hw A hen t1 ht1 h9 hE) d0_106 pd_2 rfl rfl rfl (Nat.le_of_eq rfl) (by decide) (by decide) (by decide) (by decide) rfl ?_
          rintro _ _ ⟨rfl, rfl⟩ hs14
          refine o_blk (pc' := 112) (st' := [(.long q3), (.long q2), (.ref (A t1)), (.int p0), (.ref a9), (.ref a9)]) (ls' := #[.val (.int p0), .val (.int p1), .val (.long q2), .second, .val (.long q3), .second, .val (.int p4), .val (.long q5), .second, .val (.int (Int32.ofNat t1)), .val (.int (Int32.ofNat t2)), .val (.int n2), .val (.long r2), .second, .val (.long f2), .second, .unset, .unset, .unset, .unset]) b0_109_112 rfl ?_
          refine o_callI (W := 1) (argsL := [(.int p0), (.ref (A t1)), (.long q2), (.long q3)]) (rest := [(.ref a9)]) (pc' := 115) rfl (own_word hw 11 rfl) (own_word hw 12 rfl) (own_word hw 13 rfl) (own_word hw 3 rfl) (by decide) (fun hE => rm_init l Z a0 hw A hen p0 t1 q2 q3 h9 hE a9 na9 E9 F10 F11 F12 F13) d0_112 pd_3 rfl rfl rfl (Nat.le_of_eq rfl) (by decide) (by decide) (by decide) (by decide) rfl ?_
          rintro _ hb1 ⟨rfl, Bb1, Kb1⟩ hs15
          refine o_blk (pc' := 117) (st' := []) (ls' := #[.val (.int p0), .val (.int p1), .val (.long q2), .second, .val (.long q3), .second, .val (.int p4), .val (.long q5), .second, .val (.int (Int32.ofNat t1)), .val (.int (Int32.ofNat t2)), .val (.int n2), .val (.long r2), .second, .val (.long f2), .second, .val (.ref a9), .unset, .unset, .unset]) b0_115_117 rfl ?_
          refine o_newO (pc' := 120) (own_word hw 1 rfl) (own_word hw 2 rfl) (own_word hw 3 rfl) d0_117 (by decide) (by decide) rfl ?_
          intro h16 a16 ea16 na16 X16 E16 D16
          have ne17 : a9 ≠ a16 := Nat.ne_of_lt (by rw [ea16]; exact Bb1.lt)
          have F18 := Bb1.ext X16
          have F19 : Fld Z h16 a16 "com/example/laden_barge/ladenbarge/service/InternalBatch" "number" "I" (.int (0 : Int32)) := D16 (Or.inr (own_word hw 18 rfl)) (ty := .int) (by decide)
          have F20 : Fld Z h16 a16 "com/example/laden_barge/ladenbarge/service/InternalBatch" "state" "Lcom/example/laden_barge/ladenbarge/model/BatchState;" .null := D16 (Or.inr (own_word hw 20 rfl)) (ty := (.object "com/example/laden_barge/ladenbarge/model/BatchState")) (by decide)
          have F21 : Fld Z h16 a16 "com/example/laden_barge/ladenbarge/service/InternalBatch" "records" "J" (.long (0 : Int64)) := D16 (Or.inr (own_word hw 22 rfl)) (ty := .long) (by decide)
          have F22 : Fld Z h16 a16 "com/example/laden_barge/ladenbarge/service/InternalBatch" "recordsFailed" "J" (.long (0 : Int64)) := D16 (Or.inr (own_word hw 24 rfl)) (ty := .long) (by decide)
          refine o_blk (pc' := 125) (st' := [(.int (Int32.ofNat t2)), (.int n2), (.ref a16), (.ref a16)]) (ls' := #[.val (.int p0), .val (.int p1), .val (.long q2), .second, .val (.long q3), .second, .val (.int p4), .val (.long q5), .second, .val (.int (Int32.ofNat t1)), .val (.int (Int32.ofNat t2)), .val (.int n2), .val (.long r2), .second, .val (.long f2), .second, .val (.ref a9), .unset, .unset, .unset]) b0_120_125 rfl ?_
          refine o_callS (W := 3) (argsL := [(.int (Int32.ofNat t2))]) (rest := [(.int n2), (.ref a16), (.ref a16)]) (pc' := 128) (own_word hw 4 rfl) (own_word hw 5 rfl) (own_word hw 6 rfl) (own_word hw 7 rfl) (by decide) (fun hE => rm_st l Z a0 hw A hen t2 ht2 h16 hE) d0_125 pd_2 rfl rfl rfl (Nat.le_of_eq rfl) (by decide) (by decide) (by decide) (by decide) rfl ?_
          rintro _ _ ⟨rfl, rfl⟩ hs23
          refine o_blk (pc' := 132) (st' := [(.long f2), (.long r2), (.ref (A t2)), (.int n2), (.ref a16), (.ref a16)]) (ls' := #[.val (.int p0), .val (.int p1), .val (.long q2), .second, .val (.long q3), .second, .val (.int p4), .val (.long q5), .second, .val (.int (Int32.ofNat t1)), .val (.int (Int32.ofNat t2)), .val (.int n2), .val (.long r2), .second, .val (.long f2), .second, .val (.ref a9), .unset, .unset, .unset]) b0_128_132 rfl ?_
          refine o_callI (W := 1) (argsL := [(.int n2), (.ref (A t2)), (.long r2), (.long f2)]) (rest := [(.ref a16)]) (pc' := 135) rfl (own_word hw 11 rfl) (own_word hw 12 rfl) (own_word hw 13 rfl) (own_word hw 3 rfl) (by decide) (fun hE => rm_init l Z a0 hw A hen n2 t2 r2 f2 h16 hE a16 na16 E16 F19 F20 F21 F22) d0_132 pd_3 rfl rfl rfl (Nat.le_of_eq rfl) (by decide) (by decide) (by decide) (by decide) rfl ?_
          rintro _ hb2 ⟨rfl, Bb2, Kb2⟩ hs24
          have F25 := F18.keep Kb2 (ninS ne17 nin0)
          refine o_blk (pc' := 137) (st' := []) (ls' := #[.val (.int p0), .val (.int p1), .val (.long q2), .second, .val (.long q3), .second, .val (.int p4), .val (.long q5), .second, .val (.int (Int32.ofNat t1)), .val (.int (Int32.ofNat t2)), .val (.int n2), .val (.long r2), .second, .val (.long f2), .second, .val (.ref a9), .val (.ref a16), .unset, .unset]) b0_135_137 rfl ?_
          refine o_blk (pc' := 142) (st' := [(.int (p4 &&& (15 : Int32)))]) (ls' := #[.val (.int p0), .val (.int p1), .val (.long q2), .second, .val (.long q3), .second, .val (.int p4), .val (.long q5), .second, .val (.int (Int32.ofNat t1)), .val (.int (Int32.ofNat t2)), .val (.int n2), .val (.long r2), .second, .val (.long f2), .second, .val (.ref a9), .val (.ref a16), .unset, .unset]) b0_137_142 rfl ?_
          refine o_if (pc' := 149) (pc'' := 145) d0_142 (by decide) (by decide) rfl (fun (hc142_26 : ¬ (p4 &&& (15 : Int32)) = 0) => ?_) (fun (hc142_26 : (p4 &&& (15 : Int32)) = 0) => ?_)
          ·
            refine o_blk (pc' := 152) (st' := []) (ls' := #[.val (.int p0), .val (.int p1), .val (.long q2), .second, .val (.long q3), .second, .val (.int p4), .val (.long q5), .second, .val (.int (Int32.ofNat t1)), .val (.int (Int32.ofNat t2)), .val (.int n2), .val (.long r2), .second, .val (.long f2), .second, .val (.ref a9), .val (.ref a16), .val (.int (0 : Int32)), .unset]) b0_149_152 rfl ?_
            refine o_blk (pc' := 153) (st' := [(.int p0)]) (ls' := #[.val (.int p0), .val (.int p1), .val (.long q2), .second, .val (.long q3), .second, .val (.int p4), .val (.long q5), .second, .val (.int (Int32.ofNat t1)), .val (.int (Int32.ofNat t2)), .val (.int n2), .val (.long r2), .second, .val (.long f2), .second, .val (.ref a9), .val (.ref a16), .val (.int (0 : Int32)), .unset]) b0_152_153 rfl ?_
            refine o_callS (W := 0) (argsL := [(.int p0)]) (rest := []) (pc' := 156) (own_word hw 27 rfl) (own_word hw 28 rfl) (own_word hw 29 rfl) (own_word hw 30 rfl) (by decide) (fun hE => rm_box l Z a0 hw ca cc HC p0 hb2 hE) d0_153 pd_4 rfl rfl rfl (Nat.le_of_eq rfl) (by decide) (by decide) (by decide) (by decide) rfl ?_
            rintro _ hbx ⟨bx, rfl, Ebx, Kbx⟩ hs27
            have F28 := F25.keep Kbx nin0
            have F29 := Bb2.keep Kbx nin0
            refine o_blk (pc' := 158) (st' := []) (ls' := #[.val (.int p0), .val (.int p1), .val (.long q2), .second, .val (.long q3), .second, .val (.int p4), .val (.long q5), .second, .val (.int (Int32.ofNat t1)), .val (.int (Int32.ofNat t2)), .val (.int n2), .val (.long r2), .second, .val (.long f2), .second, .val (.ref a9), .val (.ref a16), .val (.int (0 : Int32)), .val (.ref bx)]) b0_156_158 rfl ?_
            refine o_blk (pc' := 162) (st' := [(.ref a16), (.ref a9)]) (ls' := #[.val (.int p0), .val (.int p1), .val (.long q2), .second, .val (.long q3), .second, .val (.int p4), .val (.long q5), .second, .val (.int (Int32.ofNat t1)), .val (.int (Int32.ofNat t2)), .val (.int n2), .val (.long r2), .second, .val (.long f2), .second, .val (.ref a9), .val (.ref a16), .val (.int (0 : Int32)), .val (.ref bx)]) b0_158_162 rfl ?_
            refine o_callV (W := 0) (argsL := [(.ref a16)]) (rest := []) (pc' := 165) (own_word hw 34 rfl) (own_word hw 35 rfl) (own_word hw 37 rfl) (own_word hw 37 rfl) (own_word hw 36 rfl) (own_word hw 38 rfl) (own_word hw 3 rfl) (by decide) F28.1 (fun hE => rm_eq1 l Z a0 hw A hen hbx hE a9 p0 t1 ht1 q2 q3 F28 a16 n2 t2 ht2 r2 f2 F29) d0_162 pd_5 rfl rfl rfl (Nat.le_of_eq rfl) (by decide) (by decide) (by decide) (by decide) rfl ?_
            rintro _ _ ⟨rfl, rfl⟩ hs30
            refine o_blk (pc' := 167) (st' := [(.int (0 : Int32)), (.int (if p0 = n2 ∧ t1 = t2 ∧ q2 = r2 ∧ q3 = f2 then (1 : Int32) else (0 : Int32)))]) (ls' := #[.val (.int p0), .val (.int p1), .val (.long q2), .second, .val (.long q3), .second, .val (.int p4), .val (.long q5), .second, .val (.int (Int32.ofNat t1)), .val (.int (Int32.ofNat t2)), .val (.int n2), .val (.long r2), .second, .val (.long f2), .second, .val (.ref a9), .val (.ref a16), .val (.int (0 : Int32)), .val (.ref bx)]) b0_165_167 rfl ?_
            refine o_icN (pc' := 170) d0_167 rfl (if_neg (fun ⟨z1, z2, z3, z4⟩ => hc142_26 ((own_bits _).mpr ⟨hn2.mp z1, hq2.mp z2, hr2.mp z3, hf2.mp z4⟩)) : (if p0 = n2 ∧ t1 = t2 ∧ q2 = r2 ∧ q3 = f2 then (1 : Int32) else (0 : Int32)) = (0 : Int32)) ?_
            refine o_blk (pc' := 174) (st' := [(.ref a9), (.ref a16)]) (ls' := #[.val (.int p0), .val (.int p1), .val (.long q2), .second, .val (.long q3), .second, .val (.int p4), .val (.long q5), .second, .val (.int (Int32.ofNat t1)), .val (.int (Int32.ofNat t2)), .val (.int n2), .val (.long r2), .second, .val (.long f2), .second, .val (.ref a9), .val (.ref a16), .val (.int (0 : Int32)), .val (.ref bx)]) b0_170_174 rfl ?_
            refine o_callV (W := 0) (argsL := [(.ref a9)]) (rest := []) (pc' := 177) (own_word hw 34 rfl) (own_word hw 35 rfl) (own_word hw 37 rfl) (own_word hw 37 rfl) (own_word hw 36 rfl) (own_word hw 38 rfl) (own_word hw 3 rfl) (by decide) F29.1 (fun hE => rm_eq1 l Z a0 hw A hen hbx hE a16 n2 t2 ht2 r2 f2 F29 a9 p0 t1 ht1 q2 q3 F28) d0_174 pd_5 rfl rfl rfl (Nat.le_of_eq rfl) (by decide) (by decide) (by decide) (by decide) rfl ?_
            rintro _ _ ⟨rfl, rfl⟩ hs31
            refine o_blk (pc' := 179) (st' := [(.int (0 : Int32)), (.int (if n2 = p0 ∧ t2 = t1 ∧ r2 = q2 ∧ f2 = q3 then (1 : Int32) else (0 : Int32)))]) (ls' := #[.val (.int p0), .val (.int p1), .val (.long q2), .second, .val (.long q3), .second, .val (.int p4), .val (.long q5), .second, .val (.int (Int32.ofNat t1)), .val (.int (Int32.ofNat t2)), .val (.int n2), .val (.long r2), .second, .val (.long f2), .second, .val (.ref a9), .val (.ref a16), .val (.int (0 : Int32)), .val (.ref bx)]) b0_177_179 rfl ?_
            refine o_icN (pc' := 182) d0_179 rfl (if_neg (fun ⟨z1, z2, z3, z4⟩ => hc142_26 ((own_bits _).mpr ⟨hn2.mp z1.symm, hq2.mp z2.symm, hr2.mp z3.symm, hf2.mp z4.symm⟩)) : (if n2 = p0 ∧ t2 = t1 ∧ r2 = q2 ∧ f2 = q3 then (1 : Int32) else (0 : Int32)) = (0 : Int32)) ?_
            refine o_blk (pc' := 186) (st' := [(.ref a9), (.ref a9)]) (ls' := #[.val (.int p0), .val (.int p1), .val (.long q2), .second, .val (.long q3), .second, .val (.int p4), .val (.long q5), .second, .val (.int (Int32.ofNat t1)), .val (.int (Int32.ofNat t2)), .val (.int n2), .val (.long r2), .second, .val (.long f2), .second, .val (.ref a9), .val (.ref a16), .val (.int (0 : Int32)), .val (.ref bx)]) b0_182_186 rfl ?_
            refine o_callV (W := 0) (argsL := [(.ref a9)]) (rest := []) (pc' := 189) (own_word hw 34 rfl) (own_word hw 35 rfl) (own_word hw 37 rfl) (own_word hw 37 rfl) (own_word hw 36 rfl) (own_word hw 38 rfl) (own_word hw 3 rfl) (by decide) F28.1 (fun hE => rm_eq1 l Z a0 hw A hen hbx hE a9 p0 t1 ht1 q2 q3 F28 a9 p0 t1 ht1 q2 q3 F28) d0_186 pd_5 rfl rfl rfl (Nat.le_of_eq rfl) (by decide) (by decide) (by decide) (by decide) rfl ?_
            rintro _ _ ⟨rfl, rfl⟩ hs32
            refine o_ifN (pc' := 192) d0_189 rfl (by simp : ¬ (if p0 = p0 ∧ t1 = t1 ∧ q2 = q2 ∧ q3 = q3 then (1 : Int32) else (0 : Int32)) = 0) ?_
            refine o_blk (pc' := 196) (st' := [(.ref a16), (.ref a16)]) (ls' := #[.val (.int p0), .val (.int p1), .val (.long q2), .second, .val (.long q3), .second, .val (.int p4), .val (.long q5), .second, .val (.int (Int32.ofNat t1)), .val (.int (Int32.ofNat t2)), .val (.int n2), .val (.long r2), .second, .val (.long f2), .second, .val (.ref a9), .val (.ref a16), .val (.int (0 : Int32)), .val (.ref bx)]) b0_192_196 rfl ?_
            refine o_callV (W := 0) (argsL := [(.ref a16)]) (rest := []) (pc' := 199) (own_word hw 34 rfl) (own_word hw 35 rfl) (own_word hw 37 rfl) (own_word hw 37 rfl) (own_word hw 36 rfl) (own_word hw 38 rfl) (own_word hw 3 rfl) (by decide) F29.1 (fun hE => rm_eq1 l Z a0 hw A hen hbx hE a16 n2 t2 ht2 r2 f2 F29 a16 n2 t2 ht2 r2 f2 F29) d0_196 pd_5 rfl rfl rfl (Nat.le_of_eq rfl) (by decide) (by decide) (by decide) (by decide) rfl ?_
            rintro _ _ ⟨rfl, rfl⟩ hs33
            refine o_ifN (pc' := 202) d0_199 rfl (by simp : ¬ (if n2 = n2 ∧ t2 = t2 ∧ r2 = r2 ∧ f2 = f2 then (1 : Int32) else (0 : Int32)) = 0) ?_
            refine o_blk (pc' := 205) (st' := [.null, (.ref a9)]) (ls' := #[.val (.int p0), .val (.int p1), .val (.long q2), .second, .val (.long q3), .second, .val (.int p4), .val (.long q5), .second, .val (.int (Int32.ofNat t1)), .val (.int (Int32.ofNat t2)), .val (.int n2), .val (.long r2), .second, .val (.long f2), .second, .val (.ref a9), .val (.ref a16), .val (.int (0 : Int32)), .val (.ref bx)]) b0_202_205 rfl ?_
            refine o_callV (W := 0) (argsL := [.null]) (rest := []) (pc' := 208) (own_word hw 34 rfl) (own_word hw 35 rfl) (own_word hw 37 rfl) (own_word hw 37 rfl) (own_word hw 36 rfl) (own_word hw 38 rfl) (own_word hw 3 rfl) (by decide) F28.1 (fun hE => rm_eq2 l Z a0 hw hbx hE a9) d0_205 pd_5 rfl rfl rfl (Nat.le_of_eq rfl) (by decide) (by decide) (by decide) (by decide) rfl ?_
            rintro _ _ ⟨rfl, rfl⟩ hs34
            refine o_ifN (pc' := 211) d0_208 rfl (rfl : (0 : Int32) = 0) ?_
            refine o_blk (pc' := 215) (st' := [(.ref bx), (.ref a9)]) (ls' := #[.val (.int p0), .val (.int p1), .val (.long q2), .second, .val (.long q3), .second, .val (.int p4), .val (.long q5), .second, .val (.int (Int32.ofNat t1)), .val (.int (Int32.ofNat t2)), .val (.int n2), .val (.long r2), .second, .val (.long f2), .second, .val (.ref a9), .val (.ref a16), .val (.int (0 : Int32)), .val (.ref bx)]) b0_211_215 rfl ?_
            refine o_callV (W := 0) (argsL := [(.ref bx)]) (rest := []) (pc' := 218) (own_word hw 34 rfl) (own_word hw 35 rfl) (own_word hw 37 rfl) (own_word hw 37 rfl) (own_word hw 36 rfl) (own_word hw 38 rfl) (own_word hw 3 rfl) (by decide) F28.1 (fun hE => rm_eq3 l Z a0 hw hbx hE a9 bx Ebx) d0_215 pd_5 rfl rfl rfl (Nat.le_of_eq rfl) (by decide) (by decide) (by decide) (by decide) rfl ?_
            rintro _ _ ⟨rfl, rfl⟩ hs35
            refine o_ifN (pc' := 221) d0_218 rfl (rfl : (0 : Int32) = 0) ?_
            refine o_blk (pc' := 222) (st' := [(.int (1 : Int32))]) (ls' := #[.val (.int p0), .val (.int p1), .val (.long q2), .second, .val (.long q3), .second, .val (.int p4), .val (.long q5), .second, .val (.int (Int32.ofNat t1)), .val (.int (Int32.ofNat t2)), .val (.int n2), .val (.long r2), .second, .val (.long f2), .second, .val (.ref a9), .val (.ref a16), .val (.int (0 : Int32)), .val (.ref bx)]) b0_221_222 rfl ?_
            refine o_goto (pc' := 226) d0_222 (by decide) (by decide) ?_
            exact o_retZ (w := 0) d0_226 (by decide) (by decide) rfl (by decide) rfl
          ·
            refine o_blk (pc' := 146) (st' := [(.int (1 : Int32))]) (ls' := #[.val (.int p0), .val (.int p1), .val (.long q2), .second, .val (.long q3), .second, .val (.int p4), .val (.long q5), .second, .val (.int (Int32.ofNat t1)), .val (.int (Int32.ofNat t2)), .val (.int n2), .val (.long r2), .second, .val (.long f2), .second, .val (.ref a9), .val (.ref a16), .unset, .unset]) b0_145_146 rfl ?_
            refine o_goto (pc' := 150) d0_146 (by decide) (by decide) ?_
            refine o_blk (pc' := 152) (st' := []) (ls' := #[.val (.int p0), .val (.int p1), .val (.long q2), .second, .val (.long q3), .second, .val (.int p4), .val (.long q5), .second, .val (.int (Int32.ofNat t1)), .val (.int (Int32.ofNat t2)), .val (.int n2), .val (.long r2), .second, .val (.long f2), .second, .val (.ref a9), .val (.ref a16), .val (.int (1 : Int32)), .unset]) b0_150_152 rfl ?_
            refine o_blk (pc' := 153) (st' := [(.int p0)]) (ls' := #[.val (.int p0), .val (.int p1), .val (.long q2), .second, .val (.long q3), .second, .val (.int p4), .val (.long q5), .second, .val (.int (Int32.ofNat t1)), .val (.int (Int32.ofNat t2)), .val (.int n2), .val (.long r2), .second, .val (.long f2), .second, .val (.ref a9), .val (.ref a16), .val (.int (1 : Int32)), .unset]) b0_152_153 rfl ?_
            refine o_callS (W := 0) (argsL := [(.int p0)]) (rest := []) (pc' := 156) (own_word hw 27 rfl) (own_word hw 28 rfl) (own_word hw 29 rfl) (own_word hw 30 rfl) (by decide) (fun hE => rm_box l Z a0 hw ca cc HC p0 hb2 hE) d0_153 pd_4 rfl rfl rfl (Nat.le_of_eq rfl) (by decide) (by decide) (by decide) (by decide) rfl ?_
            rintro _ hbx ⟨bx, rfl, Ebx, Kbx⟩ hs36
            have F37 := F25.keep Kbx nin0
            have F38 := Bb2.keep Kbx nin0
            refine o_blk (pc' := 158) (st' := []) (ls' := #[.val (.int p0), .val (.int p1), .val (.long q2), .second, .val (.long q3), .second, .val (.int p4), .val (.long q5), .second, .val (.int (Int32.ofNat t1)), .val (.int (Int32.ofNat t2)), .val (.int n2), .val (.long r2), .second, .val (.long f2), .second, .val (.ref a9), .val (.ref a16), .val (.int (1 : Int32)), .val (.ref bx)]) b0_156_158 rfl ?_
            refine o_blk (pc' := 162) (st' := [(.ref a16), (.ref a9)]) (ls' := #[.val (.int p0), .val (.int p1), .val (.long q2), .second, .val (.long q3), .second, .val (.int p4), .val (.long q5), .second, .val (.int (Int32.ofNat t1)), .val (.int (Int32.ofNat t2)), .val (.int n2), .val (.long r2), .second, .val (.long f2), .second, .val (.ref a9), .val (.ref a16), .val (.int (1 : Int32)), .val (.ref bx)]) b0_158_162 rfl ?_
            refine o_callV (W := 0) (argsL := [(.ref a16)]) (rest := []) (pc' := 165) (own_word hw 34 rfl) (own_word hw 35 rfl) (own_word hw 37 rfl) (own_word hw 37 rfl) (own_word hw 36 rfl) (own_word hw 38 rfl) (own_word hw 3 rfl) (by decide) F37.1 (fun hE => rm_eq1 l Z a0 hw A hen hbx hE a9 p0 t1 ht1 q2 q3 F37 a16 n2 t2 ht2 r2 f2 F38) d0_162 pd_5 rfl rfl rfl (Nat.le_of_eq rfl) (by decide) (by decide) (by decide) (by decide) rfl ?_
            rintro _ _ ⟨rfl, rfl⟩ hs39
            refine o_blk (pc' := 167) (st' := [(.int (1 : Int32)), (.int (if p0 = n2 ∧ t1 = t2 ∧ q2 = r2 ∧ q3 = f2 then (1 : Int32) else (0 : Int32)))]) (ls' := #[.val (.int p0), .val (.int p1), .val (.long q2), .second, .val (.long q3), .second, .val (.int p4), .val (.long q5), .second, .val (.int (Int32.ofNat t1)), .val (.int (Int32.ofNat t2)), .val (.int n2), .val (.long r2), .second, .val (.long f2), .second, .val (.ref a9), .val (.ref a16), .val (.int (1 : Int32)), .val (.ref bx)]) b0_165_167 rfl ?_
            refine o_icN (pc' := 170) d0_167 rfl (if_pos ⟨(hn2.mpr ((own_bits _).mp hc142_26).1), (hq2.mpr ((own_bits _).mp hc142_26).2.1), (hr2.mpr ((own_bits _).mp hc142_26).2.2.1), (hf2.mpr ((own_bits _).mp hc142_26).2.2.2)⟩ : (if p0 = n2 ∧ t1 = t2 ∧ q2 = r2 ∧ q3 = f2 then (1 : Int32) else (0 : Int32)) = (1 : Int32)) ?_
            refine o_blk (pc' := 174) (st' := [(.ref a9), (.ref a16)]) (ls' := #[.val (.int p0), .val (.int p1), .val (.long q2), .second, .val (.long q3), .second, .val (.int p4), .val (.long q5), .second, .val (.int (Int32.ofNat t1)), .val (.int (Int32.ofNat t2)), .val (.int n2), .val (.long r2), .second, .val (.long f2), .second, .val (.ref a9), .val (.ref a16), .val (.int (1 : Int32)), .val (.ref bx)]) b0_170_174 rfl ?_
            refine o_callV (W := 0) (argsL := [(.ref a9)]) (rest := []) (pc' := 177) (own_word hw 34 rfl) (own_word hw 35 rfl) (own_word hw 37 rfl) (own_word hw 37 rfl) (own_word hw 36 rfl) (own_word hw 38 rfl) (own_word hw 3 rfl) (by decide) F38.1 (fun hE => rm_eq1 l Z a0 hw A hen hbx hE a16 n2 t2 ht2 r2 f2 F38 a9 p0 t1 ht1 q2 q3 F37) d0_174 pd_5 rfl rfl rfl (Nat.le_of_eq rfl) (by decide) (by decide) (by decide) (by decide) rfl ?_
            rintro _ _ ⟨rfl, rfl⟩ hs40
            refine o_blk (pc' := 179) (st' := [(.int (1 : Int32)), (.int (if n2 = p0 ∧ t2 = t1 ∧ r2 = q2 ∧ f2 = q3 then (1 : Int32) else (0 : Int32)))]) (ls' := #[.val (.int p0), .val (.int p1), .val (.long q2), .second, .val (.long q3), .second, .val (.int p4), .val (.long q5), .second, .val (.int (Int32.ofNat t1)), .val (.int (Int32.ofNat t2)), .val (.int n2), .val (.long r2), .second, .val (.long f2), .second, .val (.ref a9), .val (.ref a16), .val (.int (1 : Int32)), .val (.ref bx)]) b0_177_179 rfl ?_
            refine o_icN (pc' := 182) d0_179 rfl (if_pos ⟨(hn2.mpr ((own_bits _).mp hc142_26).1).symm, (hq2.mpr ((own_bits _).mp hc142_26).2.1).symm, (hr2.mpr ((own_bits _).mp hc142_26).2.2.1).symm, (hf2.mpr ((own_bits _).mp hc142_26).2.2.2).symm⟩ : (if n2 = p0 ∧ t2 = t1 ∧ r2 = q2 ∧ f2 = q3 then (1 : Int32) else (0 : Int32)) = (1 : Int32)) ?_
            refine o_blk (pc' := 186) (st' := [(.ref a9), (.ref a9)]) (ls' := #[.val (.int p0), .val (.int p1), .val (.long q2), .second, .val (.long q3), .second, .val (.int p4), .val (.long q5), .second, .val (.int (Int32.ofNat t1)), .val (.int (Int32.ofNat t2)), .val (.int n2), .val (.long r2), .second, .val (.long f2), .second, .val (.ref a9), .val (.ref a16), .val (.int (1 : Int32)), .val (.ref bx)]) b0_182_186 rfl ?_
            refine o_callV (W := 0) (argsL := [(.ref a9)]) (rest := []) (pc' := 189) (own_word hw 34 rfl) (own_word hw 35 rfl) (own_word hw 37 rfl) (own_word hw 37 rfl) (own_word hw 36 rfl) (own_word hw 38 rfl) (own_word hw 3 rfl) (by decide) F37.1 (fun hE => rm_eq1 l Z a0 hw A hen hbx hE a9 p0 t1 ht1 q2 q3 F37 a9 p0 t1 ht1 q2 q3 F37) d0_186 pd_5 rfl rfl rfl (Nat.le_of_eq rfl) (by decide) (by decide) (by decide) (by decide) rfl ?_
            rintro _ _ ⟨rfl, rfl⟩ hs41
            refine o_ifN (pc' := 192) d0_189 rfl (by simp : ¬ (if p0 = p0 ∧ t1 = t1 ∧ q2 = q2 ∧ q3 = q3 then (1 : Int32) else (0 : Int32)) = 0) ?_
            refine o_blk (pc' := 196) (st' := [(.ref a16), (.ref a16)]) (ls' := #[.val (.int p0), .val (.int p1), .val (.long q2), .second, .val (.long q3), .second, .val (.int p4), .val (.long q5), .second, .val (.int (Int32.ofNat t1)), .val (.int (Int32.ofNat t2)), .val (.int n2), .val (.long r2), .second, .val (.long f2), .second, .val (.ref a9), .val (.ref a16), .val (.int (1 : Int32)), .val (.ref bx)]) b0_192_196 rfl ?_
            refine o_callV (W := 0) (argsL := [(.ref a16)]) (rest := []) (pc' := 199) (own_word hw 34 rfl) (own_word hw 35 rfl) (own_word hw 37 rfl) (own_word hw 37 rfl) (own_word hw 36 rfl) (own_word hw 38 rfl) (own_word hw 3 rfl) (by decide) F38.1 (fun hE => rm_eq1 l Z a0 hw A hen hbx hE a16 n2 t2 ht2 r2 f2 F38 a16 n2 t2 ht2 r2 f2 F38) d0_196 pd_5 rfl rfl rfl (Nat.le_of_eq rfl) (by decide) (by decide) (by decide) (by decide) rfl ?_
            rintro _ _ ⟨rfl, rfl⟩ hs42
            refine o_ifN (pc' := 202) d0_199 rfl (by simp : ¬ (if n2 = n2 ∧ t2 = t2 ∧ r2 = r2 ∧ f2 = f2 then (1 : Int32) else (0 : Int32)) = 0) ?_
            refine o_blk (pc' := 205) (st' := [.null, (.ref a9)]) (ls' := #[.val (.int p0), .val (.int p1), .val (.long q2), .second, .val (.long q3), .second, .val (.int p4), .val (.long q5), .second, .val (.int (Int32.ofNat t1)), .val (.int (Int32.ofNat t2)), .val (.int n2), .val (.long r2), .second, .val (.long f2), .second, .val (.ref a9), .val (.ref a16), .val (.int (1 : Int32)), .val (.ref bx)]) b0_202_205 rfl ?_
            refine o_callV (W := 0) (argsL := [.null]) (rest := []) (pc' := 208) (own_word hw 34 rfl) (own_word hw 35 rfl) (own_word hw 37 rfl) (own_word hw 37 rfl) (own_word hw 36 rfl) (own_word hw 38 rfl) (own_word hw 3 rfl) (by decide) F37.1 (fun hE => rm_eq2 l Z a0 hw hbx hE a9) d0_205 pd_5 rfl rfl rfl (Nat.le_of_eq rfl) (by decide) (by decide) (by decide) (by decide) rfl ?_
            rintro _ _ ⟨rfl, rfl⟩ hs43
            refine o_ifN (pc' := 211) d0_208 rfl (rfl : (0 : Int32) = 0) ?_
            refine o_blk (pc' := 215) (st' := [(.ref bx), (.ref a9)]) (ls' := #[.val (.int p0), .val (.int p1), .val (.long q2), .second, .val (.long q3), .second, .val (.int p4), .val (.long q5), .second, .val (.int (Int32.ofNat t1)), .val (.int (Int32.ofNat t2)), .val (.int n2), .val (.long r2), .second, .val (.long f2), .second, .val (.ref a9), .val (.ref a16), .val (.int (1 : Int32)), .val (.ref bx)]) b0_211_215 rfl ?_
            refine o_callV (W := 0) (argsL := [(.ref bx)]) (rest := []) (pc' := 218) (own_word hw 34 rfl) (own_word hw 35 rfl) (own_word hw 37 rfl) (own_word hw 37 rfl) (own_word hw 36 rfl) (own_word hw 38 rfl) (own_word hw 3 rfl) (by decide) F37.1 (fun hE => rm_eq3 l Z a0 hw hbx hE a9 bx Ebx) d0_215 pd_5 rfl rfl rfl (Nat.le_of_eq rfl) (by decide) (by decide) (by decide) (by decide) rfl ?_
            rintro _ _ ⟨rfl, rfl⟩ hs44
            refine o_ifN (pc' := 221) d0_218 rfl (rfl : (0 : Int32) = 0) ?_
            refine o_blk (pc' := 222) (st' := [(.int (1 : Int32))]) (ls' := #[.val (.int p0), .val (.int p1), .val (.long q2), .second, .val (.long q3), .second, .val (.int p4), .val (.long q5), .second, .val (.int (Int32.ofNat t1)), .val (.int (Int32.ofNat t2)), .val (.int n2), .val (.long r2), .second, .val (.long f2), .second, .val (.ref a9), .val (.ref a16), .val (.int (1 : Int32)), .val (.ref bx)]) b0_221_222 rfl ?_
            refine o_goto (pc' := 226) d0_222 (by decide) (by decide) ?_
            exact o_retZ (w := 0) d0_226 (by decide) (by decide) rfl (by decide) rfl
        refine o_if (pc' := 95) (pc'' := 83) d0_80 (by decide) (by decide) rfl (fun (hc80_7 : (p4 &&& (8 : Int32)) = 0) => ?_) (fun (hc80_7 : ¬ (p4 &&& (8 : Int32)) = 0) => ?_)
        ·
          refine o_blk (pc' := 97) (st' := [(.long q3)]) (ls' := #[.val (.int p0), .val (.int p1), .val (.long q2), .second, .val (.long q3), .second, .val (.int p4), .val (.long q5), .second, .val (.int (Int32.ofNat t1)), .val (.int (Int32.ofNat t2)), .val (.int n2), .val (.long r2), .second, .unset, .unset, .unset, .unset, .unset, .unset]) b0_95_97 rfl ?_
          exact J97_8 _ ⟨fun _ => hc80_7, fun _ => rfl⟩
        ·
          refine o_blk (pc' := 92) (st' := [(.long (q3 + ((XT.ushrL q5 (1 : Int32)) ||| (1 : Int64))))]) (ls' := #[.val (.int p0), .val (.int p1), .val (.long q2), .second, .val (.long q3), .second, .val (.int p4), .val (.long q5), .second, .val (.int (Int32.ofNat t1)), .val (.int (Int32.ofNat t2)), .val (.int n2), .val (.long r2), .second, .unset, .unset, .unset, .unset, .unset, .unset]) b0_83_92 rfl ?_
          refine o_goto (pc' := 97) d0_92 (by decide) (by decide) ?_
          exact J97_8 _ ⟨fun q => absurd q (own_odd64 _ _), fun q => absurd q hc80_7⟩
      refine o_if (pc' := 72) (pc'' := 63) d0_60 (by decide) (by decide) rfl (fun (hc60_5 : (p4 &&& (4 : Int32)) = 0) => ?_) (fun (hc60_5 : ¬ (p4 &&& (4 : Int32)) = 0) => ?_)
      ·
        refine o_blk (pc' := 73) (st' := [(.long q2)]) (ls' := #[.val (.int p0), .val (.int p1), .val (.long q2), .second, .val (.long q3), .second, .val (.int p4), .val (.long q5), .second, .val (.int (Int32.ofNat t1)), .val (.int (Int32.ofNat t2)), .val (.int n2), .unset, .unset, .unset, .unset, .unset, .unset, .unset, .unset]) b0_72_73 rfl ?_
        exact J73_6 _ ⟨fun _ => hc60_5, fun _ => rfl⟩
      ·
        refine o_blk (pc' := 69) (st' := [(.long (q2 + (q5 ||| (1 : Int64))))]) (ls' := #[.val (.int p0), .val (.int p1), .val (.long q2), .second, .val (.long q3), .second, .val (.int p4), .val (.long q5), .second, .val (.int (Int32.ofNat t1)), .val (.int (Int32.ofNat t2)), .val (.int n2), .unset, .unset, .unset, .unset, .unset, .unset, .unset, .unset]) b0_63_69 rfl ?_
        refine o_goto (pc' := 73) d0_69 (by decide) (by decide) ?_
        exact J73_6 _ ⟨fun q => absurd q (own_odd64 _ _), fun q => absurd q hc60_5⟩
    refine o_if (pc' := 53) (pc'' := 43) d0_40 (by decide) (by decide) rfl (fun (hc40_3 : (p4 &&& (1 : Int32)) = 0) => ?_) (fun (hc40_3 : ¬ (p4 &&& (1 : Int32)) = 0) => ?_)
    ·
      refine o_blk (pc' := 54) (st' := [(.int p0)]) (ls' := #[.val (.int p0), .val (.int p1), .val (.long q2), .second, .val (.long q3), .second, .val (.int p4), .val (.long q5), .second, .val (.int (Int32.ofNat t1)), .val (.int (Int32.ofNat t2)), .unset, .unset, .unset, .unset, .unset, .unset, .unset, .unset, .unset]) b0_53_54 rfl ?_
      exact J54_4 _ ⟨fun _ => hc40_3, fun _ => rfl⟩
    ·
      refine o_blk (pc' := 50) (st' := [(.int (p0 + (q5.toInt32 ||| (1 : Int32))))]) (ls' := #[.val (.int p0), .val (.int p1), .val (.long q2), .second, .val (.long q3), .second, .val (.int p4), .val (.long q5), .second, .val (.int (Int32.ofNat t1)), .val (.int (Int32.ofNat t2)), .unset, .unset, .unset, .unset, .unset, .unset, .unset, .unset, .unset]) b0_43_50 rfl ?_
      refine o_goto (pc' := 54) d0_50 (by decide) (by decide) ?_
      exact J54_4 _ ⟨fun q => absurd q (own_odd32 _ _), fun q => absurd q hc40_3⟩
  refine o_if (pc' := 32) (pc'' := 15) d0_12 (by decide) (by decide) rfl (fun (hc12_1 : (p4 &&& (2 : Int32)) = 0) => ?_) (fun (hc12_1 : ¬ (p4 &&& (2 : Int32)) = 0) => ?_)
  ·
    refine o_blk (pc' := 34) (st' := [(.int (Int32.ofNat t1))]) (ls' := #[.val (.int p0), .val (.int p1), .val (.long q2), .second, .val (.long q3), .second, .val (.int p4), .val (.long q5), .second, .val (.int (Int32.ofNat t1)), .unset, .unset, .unset, .unset, .unset, .unset, .unset, .unset, .unset, .unset]) b0_32_34 rfl ?_
    exact J34_2 t1 ht1 ⟨fun _ => hc12_1, fun _ => rfl⟩
  ·
    refine o_blk (pc' := 25) (st' := [(.int (4 : Int32)), (.int (XT.ushr p4 (8 : Int32))), (.int ((Int32.ofNat t1) + (1 : Int32)))]) (ls' := #[.val (.int p0), .val (.int p1), .val (.long q2), .second, .val (.long q3), .second, .val (.int p4), .val (.long q5), .second, .val (.int (Int32.ofNat t1)), .unset, .unset, .unset, .unset, .unset, .unset, .unset, .unset, .unset, .unset]) b0_15_25 rfl ?_
    refine o_irem (pc' := 26) d0_25 (by decide) rfl ?_
    refine o_blk (pc' := 28) (st' := [(.int (5 : Int32)), (.int (((Int32.ofNat t1) + (1 : Int32)) + ((XT.ushr p4 (8 : Int32)) % (4 : Int32))))]) (ls' := #[.val (.int p0), .val (.int p1), .val (.long q2), .second, .val (.long q3), .second, .val (.int p4), .val (.long q5), .second, .val (.int (Int32.ofNat t1)), .unset, .unset, .unset, .unset, .unset, .unset, .unset, .unset, .unset, .unset]) b0_26_28 rfl ?_
    refine o_irem (pc' := 29) d0_28 (by decide) rfl ?_
    obtain ⟨u2, hu2, hne2, hue2⟩ := own_i2 ht1 p4
    rw [hue2]
    refine o_goto (pc' := 34) d0_29 (by decide) (by decide) ?_
    exact J34_2 u2 hu2 ⟨fun q => absurd q hne2, fun q => absurd q hc12_1⟩
set_option maxRecDepth 65536 in
set_option maxHeartbeats 40000000 in
theorem comes_1 {Post : Tables → Env → Array Value → State → Outcome → State → Prop} (hpost : ∀ tb e args s v u, (limb_1_1.after args s (.returned v) u = true ∧ limb_1_2.after args s (.returned v) u = true ∧ True) → FrameEnd s (.returned v) u (Jvm.fieldLocs frame_1_writes args s ++ Jvm.arrayLocs frame_1_arrays args s ++ Jvm.staticLocs frame_1_statics s) 16 128 → Post tb e args s (.returned v) u) :
    ArmFor flags0 classFile x code maxLocals ret World_1 tables_1 room_1 Calls_1 rest_1 Pre_1 Post := by
  intro l hfl _ _ p e ha hc hk s m args below hf hA hF happ hP
  obtain ⟨hcalls, hrest, hpre⟩ := hP
  obtain ⟨-, -, -, hnamed, -, -, -, hat⟩ := (Spec.applies_iff hf).mp happ
  obtain ⟨hg, hn⟩ := and_e (Cond.before_iff.mp (show (Jvm.Cond.and given_1 narrow_1).before args s = true from hpre))
  obtain ⟨g0, hg⟩ := and_e hg
  obtain ⟨k0, hg⟩ := and_e hg
  obtain ⟨k1, hg⟩ := and_e hg
  obtain ⟨k2, hg⟩ := and_e hg
  obtain ⟨k3, hg⟩ := and_e hg
  obtain ⟨k4, hg⟩ := and_e hg
  have k5 := hg
  obtain ⟨w0, w1, w2, w3, w4, w5, rfl⟩ : ∃ w0 w1 w2 w3 w4 w5 : Value, args = #[w0, w1, w2, w3, w4, w5] := by
    have hs : args.size = 6 := by simpa [Cond.value, given_1] using g0
    obtain ⟨L⟩ := args
    match L, hs with
    | [w0, w1, w2, w3, w4, w5], _ => exact ⟨w0, w1, w2, w3, w4, w5, rfl⟩
  have hw := fun d (hd : d ∈ tables_1) => atoms_spec (ws := Jvm.Cond.code x code maxLocals ret :: tables_1) hat d (List.mem_cons_of_mem _ hd)
  have hfit : Fit s := fun {y c} hc i hi => by
    obtain ⟨ha, rfl⟩ := Array.getElem?_eq_some_iff.mp hc
    have q := List.all_eq_true.mp ((Array.all_eq_true_iff_forall_mem.mp hF) _ (Array.getElem_mem ha)) i (List.mem_range.mpr hi)
    simpa [Array.getElem?_eq_getElem hi] using q
  obtain ⟨i0, e0⟩ := is_v k0
  obtain rfl : w0 = (.int i0) := Option.some.inj e0
  obtain ⟨i1, e1⟩ := is_v k1
  obtain rfl : w1 = (.int i1) := Option.some.inj e1
  obtain ⟨i2, e2⟩ := isL_v k2
  obtain rfl : w2 = (.long i2) := Option.some.inj e2
  obtain ⟨i3, e3⟩ := isL_v k3
  obtain rfl : w3 = (.long i3) := Option.some.inj e3
  obtain ⟨i4, e4⟩ := is_v k4
  obtain rfl : w4 = (.int i4) := Option.some.inj e4
  obtain ⟨i5, e5⟩ := isL_v k5
  obtain rfl : w5 = (.long i5) := Option.some.inj e5
  obtain ⟨q_x_FAILED, hn⟩ := and_e hn
  obtain ⟨q_x_NOT_PROCESSED, hn⟩ := and_e hn
  obtain ⟨q_o_FAILED, hn⟩ := and_e hn
  obtain ⟨q_o_NOT_PROCESSED, hn⟩ := and_e hn
  obtain ⟨q_x_COMPLETED, hn⟩ := and_e hn
  obtain ⟨q_x_IN_PROGRESS, hn⟩ := and_e hn
  obtain ⟨q_o_IN_PROGRESS, hn⟩ := and_e hn
  obtain ⟨q_o_COMPLETED, hn⟩ := and_e hn
  obtain ⟨q_x_QUEUED, hn⟩ := and_e hn
  have q_o_QUEUED := hn
  obtain ⟨c0, hc0⟩ := own_const q_x_QUEUED q_o_QUEUED (own_word hw 9 rfl) (own_word hw 64 rfl)
  obtain ⟨c1, hc1⟩ := own_const q_x_IN_PROGRESS q_o_IN_PROGRESS (own_word hw 9 rfl) (own_word hw 47 rfl)
  obtain ⟨c2, hc2⟩ := own_const q_x_COMPLETED q_o_COMPLETED (own_word hw 9 rfl) (own_word hw 45 rfl)
  obtain ⟨c3, hc3⟩ := own_const q_x_FAILED q_o_FAILED (own_word hw 9 rfl) (own_word hw 10 rfl)
  obtain ⟨c4, hc4⟩ := own_const q_x_NOT_PROCESSED q_o_NOT_PROCESSED (own_word hw 9 rfl) (own_word hw 26 rfl)
  obtain ⟨A, hA⟩ : ∃ A : Nat → Addr, A = fun i => match i with | 0 => c0 | 1 => c1 | 2 => c2 | 3 => c3 | _ => c4 := ⟨_, rfl⟩
  have hen : OEnum s "com/example/laden_barge/ladenbarge/model/BatchState" "Lcom/example/laden_barge/ladenbarge/model/BatchState;" ["QUEUED", "IN_PROGRESS", "COMPLETED", "FAILED", "NOT_PROCESSED"] A := by
    intro i f hf
    subst hA
    rcases i with _ | i
    · cases hf; exact hc0
    rcases i with _ | i
    · cases hf; exact hc1
    rcases i with _ | i
    · cases hf; exact hc2
    rcases i with _ | i
    · cases hf; exact hc3
    rcases i with _ | i
    · cases hf; exact hc4
    · cases hf
  obtain ⟨hsets, -⟩ := atoms_of jdkStatics_1 (show (jdkStatics_1.foldr Jvm.Cond.and restOwn_1).before _ s = true from by rw [← rest_1_c_eq]; exact hrest)
  have wS : ∀ (k : Nat) (d : Jvm.Cond), jdkStatics_1[k]? = some d → d.before _ s = true := fun k d q => hsets d (List.mem_of_getElem? q)
  have hini := own_initd (wS 0 _ rfl) (wS 1 _ rfl)
  have s1 := Sta.start (eqv_i (y := 127) rfl (Cond.before_iff.mp (wS 3 _ rfl))) (Or.inl (wS 1 _ rfl))
  obtain ⟨ca, ev⟩ := exa_v (Cond.before_iff.mp (wS 5 _ rfl))
  have s2 := Sta.start ev (Or.inr ⟨hini, wS 2 _ rfl⟩)
  obtain ⟨cc, Ac⟩ := Arr.start ev (Cond.before_iff.mp (wS 4 _ rfl))
  have hlen := Cond.before_iff.mp (wS 6 _ rfl)
  have HC : OCache s ca cc := ⟨s1, s2, own_bxs ev Ac hlen (Cond.before_iff.mp (wS 7 _ rfl))⟩
  obtain ⟨n, o, h1, h2, h3, _, L, rfl, ⟨⟨rfl, _⟩, N⟩, hq⟩ := rm_law l s _ hw A hen ca cc HC i0 i1 i2 i3 i4 i5 s.heap ⟨Nat.le_refl _, fun _ _ q => q⟩ tables_1 p e ha hc hk s m _ below hf ((Spec.applies_iff_loose hf).mp happ).1 ⟨rfl, State.Warmed39.refl s, rfl⟩ trivial
  refine ⟨n, _, h1, h2, h3, hpost _ _ _ _ _ _ ⟨Cond.after_iff.mpr rfl, Cond.after_iff.mpr (eq_i res_at (Term.int_eval (1)) rfl), trivial⟩ ⟨hq.1, hq.2.1, (hq.2.2.sift fun y hy => Or.inr (N y hy)).mono (by decide) (by decide)⟩⟩
theorem main_1_1 : Claimed_1_1 := comes_1 fun _ _ _ _ _ _ h hF => ⟨h.1, hF⟩
theorem main_1_2 : Claimed_1_2 := comes_1 fun _ _ _ _ _ _ h hF => ⟨h.2.1, hF⟩
end Jvm.Pilot.@@N@@
namespace Jvm.Pilot.@@N@@
open Jvm Jvm.ClassFile Sem Op Lib Jvm.Free Jvm.Stand Jvm.Pilot.@@N@@.Jvm.D
/-! MADE BY PROGRAM (witnessworld.py) out of the Statement's table words and the real class files: 19 classes; the members and pool entries that the words name. The judged class is class 1, her method 2. -/
namespace start1
open Jvm.ClassFile
def u (s : String) : CpInfo := .utf8 (stringToUtf16 s)
/-- a pool by its gaps: so many unusable entries, then the entry; so many at the end -/
def gap : Nat → List CpInfo → List CpInfo
  | 0, r => r
  | n + 1, r => .unusable :: gap n r
def poolList (es : List (Nat × CpInfo)) (last : Nat) : List CpInfo := es.foldr (fun e r => gap e.1 (e.2 :: r)) (gap last [])
def pool (es : List (Nat × CpInfo)) (last : Nat) : Array CpInfo := ⟨poolList es last⟩
def fileOf (pool : Array CpInfo) (this : Nat) (attrs : Array Attribute := #[]) (ms : Array MethodInfo := #[]) (fl : Nat := 33) (sup : Nat := 0) (ifs : Array Nat := #[]) (fds : Array FieldInfo := #[]) : ClassFile where
  minorVersion := 0
  majorVersion := 65
  constantPool := pool
  accessFlags := fl
  thisClass := this
  superClass := sup
  interfaces := ifs
  fields := fds
  methods := ms
  attributes := attrs
def plain (name : String) (sup : Option ClassId) : Class where
  name := name
  kind := .ordinary
  loader := none
  accessFlags := 33
  super := sup
  interfaces := #[]
  cf := none
  fields := #[]
  methods := #[]
  instanceTypes := #[]
  staticTypes := #[]
  resolved := #[]
  callSites := []
  init := .initialized
  statics := none
  mirror := none

def pool0 : Array CpInfo := pool [(5, u "<init>"), (0, u "()V"), (1, .class_ 10), (1, u "java/lang/Object")] 113

def k0c0 : Code := { maxStack := 0, maxLocals := 1, code := object_method_1_code, exceptionTable := #[], attributes := #[] }
def k0m0 : Method := { name := "<init>", desc := "()V", sig := { parameters := [], returnType := none }, accessFlags := 1, code := some k0c0 }
/-- java/lang/Object -/
def k0 : Class := { plain "java/lang/Object" none with
  accessFlags := 33
  interfaces := #[]
  cf := some (fileOf pool0 8 #[] #[{ accessFlags := 1, nameIndex := 5, descriptorIndex := 6, attributes := #[] }] 33 0 #[] #[])
  fields := #[]
  methods := #[k0m0]
  instanceTypes := #[]
  staticTypes := #[]
  resolved := Array.replicate 124 none
  statics := none }

def pool1 : Array CpInfo := pool [(2, .class_ 4), (1, u "java/lang/Object"), (0, u "<init>"), (0, u "()V"), (0, .fieldref 8 9), (0, .class_ 10), (0, .nameAndType 11 12), (0, u "com/example/laden_barge/ladenbarge/model/BatchState"), (0, u "QUEUED"), (0, u "Lcom/example/laden_barge/ladenbarge/model/BatchState;"), (0, .fieldref 8 14), (0, .nameAndType 15 12), (0, u "IN_PROGRESS"), (0, .fieldref 8 17), (0, .nameAndType 18 12), (0, u "COMPLETED"), (0, .fieldref 8 20), (0, .nameAndType 21 12), (0, u "FAILED"), (0, .fieldref 8 23), (0, .nameAndType 24 12), (0, u "NOT_PROCESSED"), (0, .integer 2147483647), (0, .class_ 27), (0, u "com/example/laden_barge/ladenbarge/service/InternalBatch"), (0, .methodref 29 30), (0, .class_ 31), (0, .nameAndType 32 33), (0, u "com/example/laden_barge/ladenbarge/service/InternalBatchEqualsPinLaw"), (0, u "st"), (0, u "(I)Lcom/example/laden_barge/ladenbarge/model/BatchState;"), (0, .methodref 26 35), (0, .nameAndType 5 36), (0, u "(ILcom/example/laden_barge/ladenbarge/model/BatchState;JJ)V"), (0, .methodref 38 39), (0, .class_ 40), (0, .nameAndType 41 42), (0, u "java/lang/Integer"), (0, u "valueOf"), (0, u "(I)Ljava/lang/Integer;"), (0, .methodref 26 44), (0, .nameAndType 45 46), (0, u "equals"), (0, u "(Ljava/lang/Object;)Z"), (3, u "law"), (0, u "(IIJJIJ)Z")] 2

def k1m0 : Method := { name := "<init>", desc := "()V", sig := { parameters := [], returnType := none }, accessFlags := 1, code := none }
def k1c1 : Code := { maxStack := 2, maxLocals := 1, code := method_2_code, exceptionTable := #[], attributes := #[] }
def k1m1 : Method := { name := "st", desc := "(I)Lcom/example/laden_barge/ladenbarge/model/BatchState;", sig := { parameters := [.int], returnType := some (.object "com/example/laden_barge/ladenbarge/model/BatchState") }, accessFlags := 10, code := some k1c1 }
def k1c2 : Code := { maxStack := 8, maxLocals := 20, code := code, exceptionTable := #[], attributes := #[] }
def k1m2 : Method := { name := "law", desc := "(IIJJIJ)Z", sig := { parameters := [.int, .int, .long, .long, .int, .long], returnType := some .boolean }, accessFlags := 9, code := some k1c2 }
/-- com/example/laden_barge/ladenbarge/service/InternalBatchEqualsPinLaw -/
def k1 : Class := { plain "com/example/laden_barge/ladenbarge/service/InternalBatchEqualsPinLaw" (some 0) with
  accessFlags := 49
  interfaces := #[]
  cf := some (fileOf pool1 29 #[] #[{ accessFlags := 1, nameIndex := 5, descriptorIndex := 6, attributes := #[] }, { accessFlags := 10, nameIndex := 32, descriptorIndex := 33, attributes := #[] }, { accessFlags := 9, nameIndex := 50, descriptorIndex := 51, attributes := #[] }] 49 2 #[] #[])
  fields := #[]
  methods := #[k1m0, k1m1, k1m2]
  instanceTypes := #[]
  staticTypes := #[]
  resolved := Array.replicate 54 none
  statics := none }

def pool2 : Array CpInfo := pool [(1, .methodref 2 3), (0, .class_ 4), (0, .nameAndType 5 6), (0, u "java/lang/Object"), (0, u "<init>"), (0, u "()V"), (0, .fieldref 8 9), (0, .class_ 10), (0, .nameAndType 11 12), (0, u "com/example/laden_barge/ladenbarge/service/InternalBatch"), (0, u "number"), (0, u "I"), (0, .fieldref 8 14), (0, .nameAndType 15 16), (0, u "state"), (0, u "Lcom/example/laden_barge/ladenbarge/model/BatchState;"), (0, .fieldref 8 18), (0, .nameAndType 19 20), (0, u "records"), (0, u "J"), (0, .fieldref 8 22), (0, .nameAndType 23 20), (0, u "recordsFailed"), (27, u "(ILcom/example/laden_barge/ladenbarge/model/BatchState;JJ)V"), (5, u "equals"), (0, u "(Ljava/lang/Object;)Z")] 20

def k2c0 : Code := { maxStack := 3, maxLocals := 7, code := prog_46_method_1_code, exceptionTable := #[], attributes := #[] }
def k2m0 : Method := { name := "<init>", desc := "(ILcom/example/laden_barge/ladenbarge/model/BatchState;JJ)V", sig := { parameters := [.int, (.object "com/example/laden_barge/ladenbarge/model/BatchState"), .long, .long], returnType := none }, accessFlags := 0, code := some k2c0 }
def k2c1 : Code := { maxStack := 4, maxLocals := 3, code := prog_46_method_6_code, exceptionTable := #[], attributes := #[] }
def k2m1 : Method := { name := "equals", desc := "(Ljava/lang/Object;)Z", sig := { parameters := [(.object "java/lang/Object")], returnType := some .boolean }, accessFlags := 1, code := some k2c1 }
/-- com/example/laden_barge/ladenbarge/service/InternalBatch -/
def k2 : Class := { plain "com/example/laden_barge/ladenbarge/service/InternalBatch" (some 0) with
  accessFlags := 49
  interfaces := #[]
  cf := some (fileOf pool2 8 #[] #[{ accessFlags := 0, nameIndex := 5, descriptorIndex := 51, attributes := #[] }, { accessFlags := 1, nameIndex := 57, descriptorIndex := 58, attributes := #[] }] 49 2 #[] #[{ accessFlags := 18, nameIndex := 11, descriptorIndex := 12, attributes := #[] }, { accessFlags := 18, nameIndex := 15, descriptorIndex := 16, attributes := #[] }, { accessFlags := 18, nameIndex := 19, descriptorIndex := 20, attributes := #[] }, { accessFlags := 18, nameIndex := 23, descriptorIndex := 20, attributes := #[] }])
  fields := #[{ name := "number", type := .int, accessFlags := 18, slot := 0, constantValue := 0 }, { name := "state", type := (.object "com/example/laden_barge/ladenbarge/model/BatchState"), accessFlags := 18, slot := 1, constantValue := 0 }, { name := "records", type := .long, accessFlags := 18, slot := 2, constantValue := 0 }, { name := "recordsFailed", type := .long, accessFlags := 18, slot := 3, constantValue := 0 }]
  methods := #[k2m0, k2m1]
  instanceTypes := #[.int, (.object "com/example/laden_barge/ladenbarge/model/BatchState"), .long, .long]
  staticTypes := #[]
  resolved := Array.replicate 79 none
  statics := none }

def pool3 : Array CpInfo := pool [(1, .class_ 2), (0, u "java/lang/constant/Constable"), (0, .class_ 4), (0, u "java/lang/Object")] 6

/-- java/lang/constant/Constable -/
def k3 : Class := { plain "java/lang/constant/Constable" (some 0) with
  accessFlags := 1537
  interfaces := #[]
  cf := some (fileOf pool3 1 #[] #[] 1537 3 #[] #[])
  fields := #[]
  methods := #[]
  instanceTypes := #[]
  staticTypes := #[]
  resolved := Array.replicate 11 none
  statics := none }

def pool4 : Array CpInfo := pool [(1, .class_ 2), (0, u "java/lang/Comparable"), (0, .class_ 4), (0, u "java/lang/Object")] 7

/-- java/lang/Comparable -/
def k4 : Class := { plain "java/lang/Comparable" (some 0) with
  accessFlags := 1537
  interfaces := #[]
  cf := some (fileOf pool4 1 #[] #[] 1537 3 #[] #[])
  fields := #[]
  methods := #[]
  instanceTypes := #[]
  staticTypes := #[]
  resolved := Array.replicate 12 none
  statics := none }

def pool5 : Array CpInfo := pool [(1, .class_ 2), (0, u "java/io/Serializable"), (0, .class_ 4), (0, u "java/lang/Object")] 2

/-- java/io/Serializable -/
def k5 : Class := { plain "java/io/Serializable" (some 0) with
  accessFlags := 1537
  interfaces := #[]
  cf := some (fileOf pool5 1 #[] #[] 1537 3 #[] #[])
  fields := #[]
  methods := #[]
  instanceTypes := #[]
  staticTypes := #[]
  resolved := Array.replicate 7 none
  statics := none }

def pool6 : Array CpInfo := pool [(2, .class_ 4), (1, u "java/lang/Enum"), (0, u "name"), (0, u "Ljava/lang/String;"), (2, u "ordinal"), (0, u "I"), (1, .class_ 14), (1, u "java/lang/Object"), (4, u "hash"), (86, .class_ 108), (1, u "java/lang/Enum$EnumDesc"), (2, .class_ 112), (0, u "java/lang/constant/Constable"), (0, .class_ 114), (0, u "java/lang/Comparable"), (0, .class_ 116), (0, u "java/io/Serializable")] 87

/-- java/lang/Enum -/
def k6 : Class := { plain "java/lang/Enum" (some 0) with
  accessFlags := 1057
  interfaces := #[3, 4, 5]
  cf := some (fileOf pool6 2 #[.nestMembers #[106]] #[] 1057 12 #[111, 113, 115] #[{ accessFlags := 18, nameIndex := 5, descriptorIndex := 6, attributes := #[] }, { accessFlags := 18, nameIndex := 9, descriptorIndex := 10, attributes := #[] }, { accessFlags := 2, nameIndex := 19, descriptorIndex := 10, attributes := #[] }])
  fields := #[{ name := "name", type := (.object "java/lang/String"), accessFlags := 18, slot := 0, constantValue := 0 }, { name := "ordinal", type := .int, accessFlags := 18, slot := 1, constantValue := 0 }, { name := "hash", type := .int, accessFlags := 2, slot := 2, constantValue := 0 }]
  methods := #[]
  instanceTypes := #[(.object "java/lang/String"), .int, .int]
  staticTypes := #[]
  resolved := Array.replicate 204 none
  statics := none }

def pool7 : Array CpInfo := pool [(9, .class_ 10), (0, u "com/example/laden_barge/ladenbarge/model/ProtocolNamed"), (20, .class_ 32), (0, u "java/lang/Object")] 9

/-- com/example/laden_barge/ladenbarge/model/ProtocolNamed -/
def k7 : Class := { plain "com/example/laden_barge/ladenbarge/model/ProtocolNamed" (some 0) with
  accessFlags := 1537
  interfaces := #[]
  cf := some (fileOf pool7 9 #[] #[] 1537 31 #[] #[])
  fields := #[]
  methods := #[]
  instanceTypes := #[]
  staticTypes := #[]
  resolved := Array.replicate 42 none
  statics := none }

def pool8 : Array CpInfo := pool [(1, .class_ 2), (0, u "com/example/laden_barge/ladenbarge/model/BatchState"), (2, u "QUEUED"), (0, u "Lcom/example/laden_barge/ladenbarge/model/BatchState;"), (2, u "IN_PROGRESS"), (2, u "COMPLETED"), (2, u "FAILED"), (2, u "NOT_PROCESSED"), (2, u "$VALUES"), (0, u "[Lcom/example/laden_barge/ladenbarge/model/BatchState;"), (6, .class_ 31), (1, u "java/lang/Enum"), (8, u "protocolName"), (0, u "Ljava/lang/String;"), (22, .class_ 65), (0, u "com/example/laden_barge/ladenbarge/model/ProtocolNamed")] 16

/-- com/example/laden_barge/ladenbarge/model/BatchState -/
def k8 : Class := { plain "com/example/laden_barge/ladenbarge/model/BatchState" (some 6) with
  accessFlags := 16433
  interfaces := #[7]
  cf := some (fileOf pool8 1 #[] #[] 16433 29 #[64] #[{ accessFlags := 16409, nameIndex := 5, descriptorIndex := 6, attributes := #[] }, { accessFlags := 16409, nameIndex := 9, descriptorIndex := 6, attributes := #[] }, { accessFlags := 16409, nameIndex := 12, descriptorIndex := 6, attributes := #[] }, { accessFlags := 16409, nameIndex := 15, descriptorIndex := 6, attributes := #[] }, { accessFlags := 16409, nameIndex := 18, descriptorIndex := 6, attributes := #[] }, { accessFlags := 18, nameIndex := 40, descriptorIndex := 41, attributes := #[] }, { accessFlags := 4122, nameIndex := 21, descriptorIndex := 22, attributes := #[] }])
  fields := #[{ name := "QUEUED", type := (.object "com/example/laden_barge/ladenbarge/model/BatchState"), accessFlags := 16409, slot := 0, constantValue := 0 }, { name := "IN_PROGRESS", type := (.object "com/example/laden_barge/ladenbarge/model/BatchState"), accessFlags := 16409, slot := 1, constantValue := 0 }, { name := "COMPLETED", type := (.object "com/example/laden_barge/ladenbarge/model/BatchState"), accessFlags := 16409, slot := 2, constantValue := 0 }, { name := "FAILED", type := (.object "com/example/laden_barge/ladenbarge/model/BatchState"), accessFlags := 16409, slot := 3, constantValue := 0 }, { name := "NOT_PROCESSED", type := (.object "com/example/laden_barge/ladenbarge/model/BatchState"), accessFlags := 16409, slot := 4, constantValue := 0 }, { name := "protocolName", type := (.object "java/lang/String"), accessFlags := 18, slot := 3, constantValue := 0 }, { name := "$VALUES", type := (.array (.object "com/example/laden_barge/ladenbarge/model/BatchState")), accessFlags := 4122, slot := 5, constantValue := 0 }]
  methods := #[]
  instanceTypes := #[(.object "java/lang/String"), .int, .int, (.object "java/lang/String")]
  staticTypes := #[(.object "com/example/laden_barge/ladenbarge/model/BatchState"), (.object "com/example/laden_barge/ladenbarge/model/BatchState"), (.object "com/example/laden_barge/ladenbarge/model/BatchState"), (.object "com/example/laden_barge/ladenbarge/model/BatchState"), (.object "com/example/laden_barge/ladenbarge/model/BatchState"), (.array (.object "com/example/laden_barge/ladenbarge/model/BatchState"))]
  resolved := Array.replicate 82 none
  statics := some 0 }

def pool9 : Array CpInfo := pool [(1, .methodref 2 3), (0, .class_ 4), (0, .nameAndType 5 6), (0, u "java/lang/Object"), (0, u "<init>"), (0, u "()V"), (1, .class_ 10), (1, u "java/lang/Number"), (2, .class_ 14), (0, u "java/io/Serializable"), (0, u "serialVersionUID"), (0, u "J")] 20

def k9c0 : Code := { maxStack := 1, maxLocals := 1, code := jdk_18_method_1_code, exceptionTable := #[], attributes := #[] }
def k9m0 : Method := { name := "<init>", desc := "()V", sig := { parameters := [], returnType := none }, accessFlags := 1, code := some k9c0 }
/-- java/lang/Number -/
def k9 : Class := { plain "java/lang/Number" (some 0) with
  accessFlags := 1057
  interfaces := #[5]
  cf := some (fileOf pool9 8 #[] #[{ accessFlags := 1, nameIndex := 5, descriptorIndex := 6, attributes := #[] }] 1057 2 #[13] #[{ accessFlags := 26, nameIndex := 15, descriptorIndex := 16, attributes := #[] }])
  fields := #[{ name := "serialVersionUID", type := .long, accessFlags := 26, slot := 0, constantValue := 0 }]
  methods := #[k9m0]
  instanceTypes := #[]
  staticTypes := #[.long]
  resolved := Array.replicate 37 none
  statics := none }

def pool10 : Array CpInfo := pool [(1, .class_ 2), (0, u "java/lang/constant/ConstantDesc"), (0, .class_ 4), (0, u "java/lang/Object")] 32

/-- java/lang/constant/ConstantDesc -/
def k10 : Class := { plain "java/lang/constant/ConstantDesc" (some 0) with
  accessFlags := 1537
  interfaces := #[]
  cf := some (fileOf pool10 1 #[] #[] 1537 3 #[] #[])
  fields := #[]
  methods := #[]
  instanceTypes := #[]
  staticTypes := #[]
  resolved := Array.replicate 37 none
  statics := none }

def pool11 : Array CpInfo := pool [(1, .class_ 2), (0, u "java/lang/Integer"), (16, u "digits"), (0, u "[C"), (46, u "<init>"), (17, u "DigitOnes"), (0, u "[B"), (2, u "DigitTens"), (10, .nameAndType 67 101), (0, u "()V"), (85, u "valueOf"), (0, u "(I)Ljava/lang/Integer;"), (0, .class_ 190), (0, u "java/lang/Integer$IntegerCache"), (0, .fieldref 189 192), (0, .nameAndType 193 194), (0, u "high"), (0, u "I"), (0, .fieldref 189 196), (0, .nameAndType 197 198), (0, u "cache"), (0, u "[Ljava/lang/Integer;"), (0, .methodref 1 200), (0, .nameAndType 67 201), (0, u "(I)V"), (0, .methodref 203 100), (0, .class_ 204), (0, u "java/lang/Number"), (0, .fieldref 1 206), (0, .nameAndType 207 194), (0, u "value"), (94, u "TYPE"), (0, u "Ljava/lang/Class;"), (0, .class_ 305), (0, u "java/lang/Comparable"), (0, .class_ 307), (0, u "java/lang/constant/Constable"), (0, .class_ 309), (0, u "java/lang/constant/ConstantDesc"), (0, u "MIN_VALUE"), (1, u "MAX_VALUE"), (3, u "SIZE"), (1, u "BYTES"), (1, u "serialVersionUID"), (0, u "J")] 131

def k11c0 : Code := { maxStack := 3, maxLocals := 1, code := jdk_33_method_22_code, exceptionTable := #[], attributes := #[] }
def k11m0 : Method := { name := "valueOf", desc := "(I)Ljava/lang/Integer;", sig := { parameters := [.int], returnType := some (.object "java/lang/Integer") }, accessFlags := 9, code := some k11c0 }
def k11c1 : Code := { maxStack := 2, maxLocals := 2, code := jdk_33_method_23_code, exceptionTable := #[], attributes := #[] }
def k11m1 : Method := { name := "<init>", desc := "(I)V", sig := { parameters := [.int], returnType := none }, accessFlags := 1, code := some k11c1 }
/-- java/lang/Integer -/
def k11 : Class := { plain "java/lang/Integer" (some 9) with
  accessFlags := 49
  interfaces := #[4, 3, 10]
  cf := some (fileOf pool11 1 #[.nestMembers #[189]] #[{ accessFlags := 9, nameIndex := 187, descriptorIndex := 188, attributes := #[] }, { accessFlags := 1, nameIndex := 67, descriptorIndex := 201, attributes := #[] }] 49 203 #[304, 306, 308] #[{ accessFlags := 25, nameIndex := 310, descriptorIndex := 194, attributes := #[] }, { accessFlags := 25, nameIndex := 312, descriptorIndex := 194, attributes := #[] }, { accessFlags := 25, nameIndex := 302, descriptorIndex := 303, attributes := #[] }, { accessFlags := 24, nameIndex := 19, descriptorIndex := 20, attributes := #[] }, { accessFlags := 24, nameIndex := 89, descriptorIndex := 86, attributes := #[] }, { accessFlags := 24, nameIndex := 85, descriptorIndex := 86, attributes := #[] }, { accessFlags := 18, nameIndex := 207, descriptorIndex := 194, attributes := #[] }, { accessFlags := 25, nameIndex := 316, descriptorIndex := 194, attributes := #[] }, { accessFlags := 25, nameIndex := 318, descriptorIndex := 194, attributes := #[] }, { accessFlags := 26, nameIndex := 320, descriptorIndex := 321, attributes := #[] }])
  fields := #[{ name := "MIN_VALUE", type := .int, accessFlags := 25, slot := 0, constantValue := 0 }, { name := "MAX_VALUE", type := .int, accessFlags := 25, slot := 1, constantValue := 0 }, { name := "TYPE", type := (.object "java/lang/Class"), accessFlags := 25, slot := 2, constantValue := 0 }, { name := "digits", type := (.array .char), accessFlags := 24, slot := 3, constantValue := 0 }, { name := "DigitTens", type := (.array .byte), accessFlags := 24, slot := 4, constantValue := 0 }, { name := "DigitOnes", type := (.array .byte), accessFlags := 24, slot := 5, constantValue := 0 }, { name := "value", type := .int, accessFlags := 18, slot := 0, constantValue := 0 }, { name := "SIZE", type := .int, accessFlags := 25, slot := 6, constantValue := 0 }, { name := "BYTES", type := .int, accessFlags := 25, slot := 7, constantValue := 0 }, { name := "serialVersionUID", type := .long, accessFlags := 26, slot := 8, constantValue := 0 }]
  methods := #[k11m0, k11m1]
  instanceTypes := #[.int]
  staticTypes := #[.int, .int, (.object "java/lang/Class"), (.array .char), (.array .byte), (.array .byte), .int, .int, .long]
  resolved := Array.replicate 453 none
  statics := none }

def pool12 : Array CpInfo := pool [(2, .class_ 4), (1, u "java/lang/Object"), (0, u "<init>"), (0, u "()V"), (0, .class_ 8), (0, u "java/lang/Integer"), (7, .class_ 18), (1, u "java/lang/Integer$IntegerCache"), (0, u "$assertionsDisabled"), (0, u "Z"), (26, u "high"), (0, u "I"), (8, u "archivedCache"), (0, u "[Ljava/lang/Integer;"), (12, u "cache"), (0, u "low")] 27

def k12m0 : Method := { name := "<init>", desc := "()V", sig := { parameters := [], returnType := none }, accessFlags := 2, code := none }
/-- java/lang/Integer$IntegerCache -/
def k12 : Class := { plain "java/lang/Integer$IntegerCache" (some 0) with
  accessFlags := 48
  interfaces := #[]
  cf := some (fileOf pool12 16 #[.nestHost 7] #[{ accessFlags := 2, nameIndex := 5, descriptorIndex := 6, attributes := #[] }] 48 2 #[] #[{ accessFlags := 24, nameIndex := 72, descriptorIndex := 48, attributes := #[] }, { accessFlags := 24, nameIndex := 47, descriptorIndex := 48, attributes := #[] }, { accessFlags := 24, nameIndex := 71, descriptorIndex := 58, attributes := #[] }, { accessFlags := 8, nameIndex := 57, descriptorIndex := 58, attributes := #[] }, { accessFlags := 4120, nameIndex := 19, descriptorIndex := 20, attributes := #[] }])
  fields := #[{ name := "low", type := .int, accessFlags := 24, slot := 0, constantValue := 0 }, { name := "high", type := .int, accessFlags := 24, slot := 1, constantValue := 0 }, { name := "cache", type := (.array (.object "java/lang/Integer")), accessFlags := 24, slot := 2, constantValue := 0 }, { name := "archivedCache", type := (.array (.object "java/lang/Integer")), accessFlags := 8, slot := 3, constantValue := 0 }, { name := "$assertionsDisabled", type := .boolean, accessFlags := 4120, slot := 4, constantValue := 0 }]
  methods := #[k12m0]
  instanceTypes := #[]
  staticTypes := #[.int, .int, (.array (.object "java/lang/Integer")), (.array (.object "java/lang/Integer")), .boolean]
  resolved := Array.replicate 100 none
  statics := some 1 }

def pool13 : Array CpInfo := pool [(1, u "java/lang/Cloneable"), (0, .class_ 1), (0, u "java/lang/Object"), (0, .class_ 3)] 3

/-- java/lang/Cloneable -/
def k13 : Class := { plain "java/lang/Cloneable" (some 0) with
  accessFlags := 1537
  interfaces := #[]
  cf := some (fileOf pool13 2 #[] #[] 1537 4 #[] #[])
  fields := #[]
  methods := #[]
  instanceTypes := #[]
  staticTypes := #[]
  resolved := Array.replicate 8 none
  statics := none }

/-- the primitive byte -/
def k14 : Class := { plain "byte" none with kind := .primitive 'B', accessFlags := 0x411 }
/-- [B -/
def k15 : Class := { plain "[B" (some 0) with kind := .array 14 .byte, interfaces := #[13, 5], accessFlags := 1041 }

/-- the primitive int -/
def k16 : Class := { plain "int" none with kind := .primitive 'I', accessFlags := 0x411 }
/-- [I -/
def k17 : Class := { plain "[I" (some 0) with kind := .array 16 .int, interfaces := #[13, 5], accessFlags := 1041 }

/-- [Ljava/lang/Integer; -/
def k18 : Class := { plain "[Ljava/lang/Integer;" (some 0) with kind := .array 11 (.object "java/lang/Integer"), interfaces := #[13, 5], accessFlags := 1041 }

def heap : Heap := #[{ cls := 8, slots := #[.ref 3, .ref 4, .ref 5, .ref 6, .ref 7, .null], vm := .statics 8 },
  { cls := 12, slots := #[.int 0, .int 127, .ref 2, .null, .int 0], vm := .statics 12 },
  { cls := 18, slots := #[.ref 8, .ref 9, .ref 10, .ref 11, .ref 12, .ref 13, .ref 14, .ref 15, .ref 16, .ref 17, .ref 18, .ref 19, .ref 20, .ref 21, .ref 22, .ref 23, .ref 24, .ref 25, .ref 26, .ref 27, .ref 28, .ref 29, .ref 30, .ref 31, .ref 32, .ref 33, .ref 34, .ref 35, .ref 36, .ref 37, .ref 38, .ref 39, .ref 40, .ref 41, .ref 42, .ref 43, .ref 44, .ref 45, .ref 46, .ref 47, .ref 48, .ref 49, .ref 50, .ref 51, .ref 52, .ref 53, .ref 54, .ref 55, .ref 56, .ref 57, .ref 58, .ref 59, .ref 60, .ref 61, .ref 62, .ref 63, .ref 64, .ref 65, .ref 66, .ref 67, .ref 68, .ref 69, .ref 70, .ref 71, .ref 72, .ref 73, .ref 74, .ref 75, .ref 76, .ref 77, .ref 78, .ref 79, .ref 80, .ref 81, .ref 82, .ref 83, .ref 84, .ref 85, .ref 86, .ref 87, .ref 88, .ref 89, .ref 90, .ref 91, .ref 92, .ref 93, .ref 94, .ref 95, .ref 96, .ref 97, .ref 98, .ref 99, .ref 100, .ref 101, .ref 102, .ref 103, .ref 104, .ref 105, .ref 106, .ref 107, .ref 108, .ref 109, .ref 110, .ref 111, .ref 112, .ref 113, .ref 114, .ref 115, .ref 116, .ref 117, .ref 118, .ref 119, .ref 120, .ref 121, .ref 122, .ref 123, .ref 124, .ref 125, .ref 126, .ref 127, .ref 128, .ref 129, .ref 130, .ref 131, .ref 132, .ref 133, .ref 134, .ref 135, .ref 136, .ref 137, .ref 138, .ref 139, .ref 140, .ref 141, .ref 142, .ref 143, .ref 144, .ref 145, .ref 146, .ref 147, .ref 148, .ref 149, .ref 150, .ref 151, .ref 152, .ref 153, .ref 154, .ref 155, .ref 156, .ref 157, .ref 158, .ref 159, .ref 160, .ref 161, .ref 162, .ref 163, .ref 164, .ref 165, .ref 166, .ref 167, .ref 168, .ref 169, .ref 170, .ref 171, .ref 172, .ref 173, .ref 174, .ref 175, .ref 176, .ref 177, .ref 178, .ref 179, .ref 180, .ref 181, .ref 182, .ref 183, .ref 184, .ref 185, .ref 186, .ref 187, .ref 188, .ref 189, .ref 190, .ref 191, .ref 192, .ref 193, .ref 194, .ref 195, .ref 196, .ref 197, .ref 198, .ref 199, .ref 200, .ref 201, .ref 202, .ref 203, .ref 204, .ref 205, .ref 206, .ref 207, .ref 208, .ref 209, .ref 210, .ref 211, .ref 212, .ref 213, .ref 214, .ref 215, .ref 216, .ref 217, .ref 218, .ref 219, .ref 220, .ref 221, .ref 222, .ref 223, .ref 224, .ref 225, .ref 226, .ref 227, .ref 228, .ref 229, .ref 230, .ref 231, .ref 232, .ref 233, .ref 234, .ref 235, .ref 236, .ref 237, .ref 238, .ref 239, .ref 240, .ref 241, .ref 242, .ref 243, .ref 244, .ref 245, .ref 246, .ref 247, .ref 248, .ref 249, .ref 250, .ref 251, .ref 252, .ref 253, .ref 254, .ref 255, .ref 256, .ref 257, .ref 258, .ref 259, .ref 260, .ref 261, .ref 262, .ref 263], vm := .none },
  { cls := 8, slots := #[.null, .int 0, .int 0, .null], vm := .none },
  { cls := 8, slots := #[.null, .int 1, .int 0, .null], vm := .none },
  { cls := 8, slots := #[.null, .int 2, .int 0, .null], vm := .none },
  { cls := 8, slots := #[.null, .int 3, .int 0, .null], vm := .none },
  { cls := 8, slots := #[.null, .int 4, .int 0, .null], vm := .none },
  { cls := 11, slots := #[.int (-128)], vm := .none },
  { cls := 11, slots := #[.int (-127)], vm := .none },
  { cls := 11, slots := #[.int (-126)], vm := .none },
  { cls := 11, slots := #[.int (-125)], vm := .none },
  { cls := 11, slots := #[.int (-124)], vm := .none },
  { cls := 11, slots := #[.int (-123)], vm := .none },
  { cls := 11, slots := #[.int (-122)], vm := .none },
  { cls := 11, slots := #[.int (-121)], vm := .none },
  { cls := 11, slots := #[.int (-120)], vm := .none },
  { cls := 11, slots := #[.int (-119)], vm := .none },
  { cls := 11, slots := #[.int (-118)], vm := .none },
  { cls := 11, slots := #[.int (-117)], vm := .none },
  { cls := 11, slots := #[.int (-116)], vm := .none },
  { cls := 11, slots := #[.int (-115)], vm := .none },
  { cls := 11, slots := #[.int (-114)], vm := .none },
  { cls := 11, slots := #[.int (-113)], vm := .none },
  { cls := 11, slots := #[.int (-112)], vm := .none },
  { cls := 11, slots := #[.int (-111)], vm := .none },
  { cls := 11, slots := #[.int (-110)], vm := .none },
  { cls := 11, slots := #[.int (-109)], vm := .none },
  { cls := 11, slots := #[.int (-108)], vm := .none },
  { cls := 11, slots := #[.int (-107)], vm := .none },
  { cls := 11, slots := #[.int (-106)], vm := .none },
  { cls := 11, slots := #[.int (-105)], vm := .none },
  { cls := 11, slots := #[.int (-104)], vm := .none },
  { cls := 11, slots := #[.int (-103)], vm := .none },
  { cls := 11, slots := #[.int (-102)], vm := .none },
  { cls := 11, slots := #[.int (-101)], vm := .none },
  { cls := 11, slots := #[.int (-100)], vm := .none },
  { cls := 11, slots := #[.int (-99)], vm := .none },
  { cls := 11, slots := #[.int (-98)], vm := .none },
  { cls := 11, slots := #[.int (-97)], vm := .none },
  { cls := 11, slots := #[.int (-96)], vm := .none },
  { cls := 11, slots := #[.int (-95)], vm := .none },
  { cls := 11, slots := #[.int (-94)], vm := .none },
  { cls := 11, slots := #[.int (-93)], vm := .none },
  { cls := 11, slots := #[.int (-92)], vm := .none },
  { cls := 11, slots := #[.int (-91)], vm := .none },
  { cls := 11, slots := #[.int (-90)], vm := .none },
  { cls := 11, slots := #[.int (-89)], vm := .none },
  { cls := 11, slots := #[.int (-88)], vm := .none },
  { cls := 11, slots := #[.int (-87)], vm := .none },
  { cls := 11, slots := #[.int (-86)], vm := .none },
  { cls := 11, slots := #[.int (-85)], vm := .none },
  { cls := 11, slots := #[.int (-84)], vm := .none },
  { cls := 11, slots := #[.int (-83)], vm := .none },
  { cls := 11, slots := #[.int (-82)], vm := .none },
  { cls := 11, slots := #[.int (-81)], vm := .none },
  { cls := 11, slots := #[.int (-80)], vm := .none },
  { cls := 11, slots := #[.int (-79)], vm := .none },
  { cls := 11, slots := #[.int (-78)], vm := .none },
  { cls := 11, slots := #[.int (-77)], vm := .none },
  { cls := 11, slots := #[.int (-76)], vm := .none },
  { cls := 11, slots := #[.int (-75)], vm := .none },
  { cls := 11, slots := #[.int (-74)], vm := .none },
  { cls := 11, slots := #[.int (-73)], vm := .none },
  { cls := 11, slots := #[.int (-72)], vm := .none },
  { cls := 11, slots := #[.int (-71)], vm := .none },
  { cls := 11, slots := #[.int (-70)], vm := .none },
  { cls := 11, slots := #[.int (-69)], vm := .none },
  { cls := 11, slots := #[.int (-68)], vm := .none },
  { cls := 11, slots := #[.int (-67)], vm := .none },
  { cls := 11, slots := #[.int (-66)], vm := .none },
  { cls := 11, slots := #[.int (-65)], vm := .none },
  { cls := 11, slots := #[.int (-64)], vm := .none },
  { cls := 11, slots := #[.int (-63)], vm := .none },
  { cls := 11, slots := #[.int (-62)], vm := .none },
  { cls := 11, slots := #[.int (-61)], vm := .none },
  { cls := 11, slots := #[.int (-60)], vm := .none },
  { cls := 11, slots := #[.int (-59)], vm := .none },
  { cls := 11, slots := #[.int (-58)], vm := .none },
  { cls := 11, slots := #[.int (-57)], vm := .none },
  { cls := 11, slots := #[.int (-56)], vm := .none },
  { cls := 11, slots := #[.int (-55)], vm := .none },
  { cls := 11, slots := #[.int (-54)], vm := .none },
  { cls := 11, slots := #[.int (-53)], vm := .none },
  { cls := 11, slots := #[.int (-52)], vm := .none },
  { cls := 11, slots := #[.int (-51)], vm := .none },
  { cls := 11, slots := #[.int (-50)], vm := .none },
  { cls := 11, slots := #[.int (-49)], vm := .none },
  { cls := 11, slots := #[.int (-48)], vm := .none },
  { cls := 11, slots := #[.int (-47)], vm := .none },
  { cls := 11, slots := #[.int (-46)], vm := .none },
  { cls := 11, slots := #[.int (-45)], vm := .none },
  { cls := 11, slots := #[.int (-44)], vm := .none },
  { cls := 11, slots := #[.int (-43)], vm := .none },
  { cls := 11, slots := #[.int (-42)], vm := .none },
  { cls := 11, slots := #[.int (-41)], vm := .none },
  { cls := 11, slots := #[.int (-40)], vm := .none },
  { cls := 11, slots := #[.int (-39)], vm := .none },
  { cls := 11, slots := #[.int (-38)], vm := .none },
  { cls := 11, slots := #[.int (-37)], vm := .none },
  { cls := 11, slots := #[.int (-36)], vm := .none },
  { cls := 11, slots := #[.int (-35)], vm := .none },
  { cls := 11, slots := #[.int (-34)], vm := .none },
  { cls := 11, slots := #[.int (-33)], vm := .none },
  { cls := 11, slots := #[.int (-32)], vm := .none },
  { cls := 11, slots := #[.int (-31)], vm := .none },
  { cls := 11, slots := #[.int (-30)], vm := .none },
  { cls := 11, slots := #[.int (-29)], vm := .none },
  { cls := 11, slots := #[.int (-28)], vm := .none },
  { cls := 11, slots := #[.int (-27)], vm := .none },
  { cls := 11, slots := #[.int (-26)], vm := .none },
  { cls := 11, slots := #[.int (-25)], vm := .none },
  { cls := 11, slots := #[.int (-24)], vm := .none },
  { cls := 11, slots := #[.int (-23)], vm := .none },
  { cls := 11, slots := #[.int (-22)], vm := .none },
  { cls := 11, slots := #[.int (-21)], vm := .none },
  { cls := 11, slots := #[.int (-20)], vm := .none },
  { cls := 11, slots := #[.int (-19)], vm := .none },
  { cls := 11, slots := #[.int (-18)], vm := .none },
  { cls := 11, slots := #[.int (-17)], vm := .none },
  { cls := 11, slots := #[.int (-16)], vm := .none },
  { cls := 11, slots := #[.int (-15)], vm := .none },
  { cls := 11, slots := #[.int (-14)], vm := .none },
  { cls := 11, slots := #[.int (-13)], vm := .none },
  { cls := 11, slots := #[.int (-12)], vm := .none },
  { cls := 11, slots := #[.int (-11)], vm := .none },
  { cls := 11, slots := #[.int (-10)], vm := .none },
  { cls := 11, slots := #[.int (-9)], vm := .none },
  { cls := 11, slots := #[.int (-8)], vm := .none },
  { cls := 11, slots := #[.int (-7)], vm := .none },
  { cls := 11, slots := #[.int (-6)], vm := .none },
  { cls := 11, slots := #[.int (-5)], vm := .none },
  { cls := 11, slots := #[.int (-4)], vm := .none },
  { cls := 11, slots := #[.int (-3)], vm := .none },
  { cls := 11, slots := #[.int (-2)], vm := .none },
  { cls := 11, slots := #[.int (-1)], vm := .none },
  { cls := 11, slots := #[.int 0], vm := .none },
  { cls := 11, slots := #[.int 1], vm := .none },
  { cls := 11, slots := #[.int 2], vm := .none },
  { cls := 11, slots := #[.int 3], vm := .none },
  { cls := 11, slots := #[.int 4], vm := .none },
  { cls := 11, slots := #[.int 5], vm := .none },
  { cls := 11, slots := #[.int 6], vm := .none },
  { cls := 11, slots := #[.int 7], vm := .none },
  { cls := 11, slots := #[.int 8], vm := .none },
  { cls := 11, slots := #[.int 9], vm := .none },
  { cls := 11, slots := #[.int 10], vm := .none },
  { cls := 11, slots := #[.int 11], vm := .none },
  { cls := 11, slots := #[.int 12], vm := .none },
  { cls := 11, slots := #[.int 13], vm := .none },
  { cls := 11, slots := #[.int 14], vm := .none },
  { cls := 11, slots := #[.int 15], vm := .none },
  { cls := 11, slots := #[.int 16], vm := .none },
  { cls := 11, slots := #[.int 17], vm := .none },
  { cls := 11, slots := #[.int 18], vm := .none },
  { cls := 11, slots := #[.int 19], vm := .none },
  { cls := 11, slots := #[.int 20], vm := .none },
  { cls := 11, slots := #[.int 21], vm := .none },
  { cls := 11, slots := #[.int 22], vm := .none },
  { cls := 11, slots := #[.int 23], vm := .none },
  { cls := 11, slots := #[.int 24], vm := .none },
  { cls := 11, slots := #[.int 25], vm := .none },
  { cls := 11, slots := #[.int 26], vm := .none },
  { cls := 11, slots := #[.int 27], vm := .none },
  { cls := 11, slots := #[.int 28], vm := .none },
  { cls := 11, slots := #[.int 29], vm := .none },
  { cls := 11, slots := #[.int 30], vm := .none },
  { cls := 11, slots := #[.int 31], vm := .none },
  { cls := 11, slots := #[.int 32], vm := .none },
  { cls := 11, slots := #[.int 33], vm := .none },
  { cls := 11, slots := #[.int 34], vm := .none },
  { cls := 11, slots := #[.int 35], vm := .none },
  { cls := 11, slots := #[.int 36], vm := .none },
  { cls := 11, slots := #[.int 37], vm := .none },
  { cls := 11, slots := #[.int 38], vm := .none },
  { cls := 11, slots := #[.int 39], vm := .none },
  { cls := 11, slots := #[.int 40], vm := .none },
  { cls := 11, slots := #[.int 41], vm := .none },
  { cls := 11, slots := #[.int 42], vm := .none },
  { cls := 11, slots := #[.int 43], vm := .none },
  { cls := 11, slots := #[.int 44], vm := .none },
  { cls := 11, slots := #[.int 45], vm := .none },
  { cls := 11, slots := #[.int 46], vm := .none },
  { cls := 11, slots := #[.int 47], vm := .none },
  { cls := 11, slots := #[.int 48], vm := .none },
  { cls := 11, slots := #[.int 49], vm := .none },
  { cls := 11, slots := #[.int 50], vm := .none },
  { cls := 11, slots := #[.int 51], vm := .none },
  { cls := 11, slots := #[.int 52], vm := .none },
  { cls := 11, slots := #[.int 53], vm := .none },
  { cls := 11, slots := #[.int 54], vm := .none },
  { cls := 11, slots := #[.int 55], vm := .none },
  { cls := 11, slots := #[.int 56], vm := .none },
  { cls := 11, slots := #[.int 57], vm := .none },
  { cls := 11, slots := #[.int 58], vm := .none },
  { cls := 11, slots := #[.int 59], vm := .none },
  { cls := 11, slots := #[.int 60], vm := .none },
  { cls := 11, slots := #[.int 61], vm := .none },
  { cls := 11, slots := #[.int 62], vm := .none },
  { cls := 11, slots := #[.int 63], vm := .none },
  { cls := 11, slots := #[.int 64], vm := .none },
  { cls := 11, slots := #[.int 65], vm := .none },
  { cls := 11, slots := #[.int 66], vm := .none },
  { cls := 11, slots := #[.int 67], vm := .none },
  { cls := 11, slots := #[.int 68], vm := .none },
  { cls := 11, slots := #[.int 69], vm := .none },
  { cls := 11, slots := #[.int 70], vm := .none },
  { cls := 11, slots := #[.int 71], vm := .none },
  { cls := 11, slots := #[.int 72], vm := .none },
  { cls := 11, slots := #[.int 73], vm := .none },
  { cls := 11, slots := #[.int 74], vm := .none },
  { cls := 11, slots := #[.int 75], vm := .none },
  { cls := 11, slots := #[.int 76], vm := .none },
  { cls := 11, slots := #[.int 77], vm := .none },
  { cls := 11, slots := #[.int 78], vm := .none },
  { cls := 11, slots := #[.int 79], vm := .none },
  { cls := 11, slots := #[.int 80], vm := .none },
  { cls := 11, slots := #[.int 81], vm := .none },
  { cls := 11, slots := #[.int 82], vm := .none },
  { cls := 11, slots := #[.int 83], vm := .none },
  { cls := 11, slots := #[.int 84], vm := .none },
  { cls := 11, slots := #[.int 85], vm := .none },
  { cls := 11, slots := #[.int 86], vm := .none },
  { cls := 11, slots := #[.int 87], vm := .none },
  { cls := 11, slots := #[.int 88], vm := .none },
  { cls := 11, slots := #[.int 89], vm := .none },
  { cls := 11, slots := #[.int 90], vm := .none },
  { cls := 11, slots := #[.int 91], vm := .none },
  { cls := 11, slots := #[.int 92], vm := .none },
  { cls := 11, slots := #[.int 93], vm := .none },
  { cls := 11, slots := #[.int 94], vm := .none },
  { cls := 11, slots := #[.int 95], vm := .none },
  { cls := 11, slots := #[.int 96], vm := .none },
  { cls := 11, slots := #[.int 97], vm := .none },
  { cls := 11, slots := #[.int 98], vm := .none },
  { cls := 11, slots := #[.int 99], vm := .none },
  { cls := 11, slots := #[.int 100], vm := .none },
  { cls := 11, slots := #[.int 101], vm := .none },
  { cls := 11, slots := #[.int 102], vm := .none },
  { cls := 11, slots := #[.int 103], vm := .none },
  { cls := 11, slots := #[.int 104], vm := .none },
  { cls := 11, slots := #[.int 105], vm := .none },
  { cls := 11, slots := #[.int 106], vm := .none },
  { cls := 11, slots := #[.int 107], vm := .none },
  { cls := 11, slots := #[.int 108], vm := .none },
  { cls := 11, slots := #[.int 109], vm := .none },
  { cls := 11, slots := #[.int 110], vm := .none },
  { cls := 11, slots := #[.int 111], vm := .none },
  { cls := 11, slots := #[.int 112], vm := .none },
  { cls := 11, slots := #[.int 113], vm := .none },
  { cls := 11, slots := #[.int 114], vm := .none },
  { cls := 11, slots := #[.int 115], vm := .none },
  { cls := 11, slots := #[.int 116], vm := .none },
  { cls := 11, slots := #[.int 117], vm := .none },
  { cls := 11, slots := #[.int 118], vm := .none },
  { cls := 11, slots := #[.int 119], vm := .none },
  { cls := 11, slots := #[.int 120], vm := .none },
  { cls := 11, slots := #[.int 121], vm := .none },
  { cls := 11, slots := #[.int 122], vm := .none },
  { cls := 11, slots := #[.int 123], vm := .none },
  { cls := 11, slots := #[.int 124], vm := .none },
  { cls := 11, slots := #[.int 125], vm := .none },
  { cls := 11, slots := #[.int 126], vm := .none },
  { cls := 11, slots := #[.int 127], vm := .none }]
def classes : Array Class := #[k0, k1, k2, k3, k4, k5, k6, k7, k8, k9, k10, k11, k12, k13, k14, k15, k16, k17, k18]
def interned : List (Array UInt16 × Addr) := []
def slotsUsed : Nat := 543
def theMethod : MethodId := ⟨1, 2⟩
def args0 : Array Value := #[.int 5, .int 1, .long 7, .long 8, .int 3, .long 11]
def aboutOver (below : List Frame) : State where
  vm := { classes := classes, interned := interned.toArray }
  heap := heap
  slotsUsed := slotsUsed
  threads := #[{ frames := .invoking theMethod args0 :: below }]
def below0 : List Frame := [.native { method := ⟨0, 0⟩, args := #[] }]
def about1 : State := aboutOver below0
def p0 : Program := .bare "" "" ""
def e0 : Env := launch0.env 0 0 0
theorem w_frames : about1.frames = Frame.invoking theMethod args0 :: below0 := rfl
set_option maxRecDepth 65536 in
theorem w_args : argsFit about1.vm theMethod args0 = true := by decide +kernel
set_option maxRecDepth 65536 in
theorem w_heap : heapFits about1 = true := by decide +kernel
set_option maxRecDepth 65536 in
theorem w_runnable : about1.curStatus? = some .runnable := by decide +kernel
set_option maxRecDepth 65536 in
theorem w_alone : about1.alone = true := by decide +kernel
set_option maxRecDepth 65536 in
theorem w_named : about1.methodNamed? x = some theMethod := by decide +kernel
set_option maxRecDepth 65536 in
theorem w_hears : about1.hears theMethod below0 = true := by decide +kernel
set_option maxRecDepth 65536 in
theorem w_ripe : about1.ripe theMethod args0 below0 = true := by decide +kernel
theorem w_running : about1.status = .running := rfl
set_option maxRecDepth 65536 in
theorem w_room : about1.hasRoom e0.platform room_1 = true :=
  launch0.hasRoom_least _ room_1 (by decide +kernel) (by decide +kernel) (by decide +kernel) (by decide +kernel) (by decide +kernel) (by decide +kernel)
theorem allAtoms_all (ts : List Jvm.Cond) (a : Array Jvm.Value) (st : Jvm.State) : (allAtoms ts).before a st = ts.all (fun c => c.before a st) := by
  induction ts with
  | nil => rfl
  | cons c t ih =>
    show (Jvm.Cond.and c (allAtoms t)).before a st = _
    rw [Jvm.Cond.before_and, ih, List.all_cons]
def words1 : List Jvm.Cond := Jvm.Cond.code x code maxLocals ret :: tables_1
/-- a 'code' word, met by the world's own term for the bytes: nothing is compared byte by byte -/
theorem code_word {y : MethodName} {bytes : ByteArray} {mx : Nat} {rt : Option FieldType} {a : Array Value} {s : State} {m : MethodId} {meth : Method} {c : Code} (h1 : s.methodNamed? y = some m) (h2 : s.vm.method? m = some meth) (h3 : meth.code = some c) (h4 : c.code = bytes)
    (h5 : (c.maxLocals == mx && c.exceptionTable.isEmpty && decide (c.maxStack ≤ mostOperands) && decide (meth.sig.returnType = rt) && !meth.locks && decide (parseMethodDescriptor y.desc = some meth.sig)) = true) : (Jvm.Cond.code y bytes mx rt).before a s = true := by
  simp only [Bool.and_eq_true, beq_iff_eq, Bool.not_eq_true', decide_eq_true_eq] at h5
  obtain ⟨⟨⟨⟨⟨g1, g2⟩, g3⟩, g4⟩, g5⟩, g6⟩ := h5
  simp [Cond.before, Cond.holds, Cond.value, h1, h2, h3, h4, g1, g2, g3, g4, g5, g6]
def isCode : Jvm.Cond → Bool
  | .code _ _ _ _ => true
  | _ => false
theorem all_split {L : List Jvm.Cond} {P : Jvm.Cond → Bool} (h1 : L.all (fun c => isCode c || P c) = true) (h2 : ∀ c ∈ L.filter isCode, P c = true) : L.all P = true := by
  refine List.all_eq_true.mpr fun c hc => ?_
  have h := List.all_eq_true.mp h1 c hc
  rcases Bool.eq_false_or_eq_true (isCode c) with hi | hi
  · exact h2 c (List.mem_filter.mpr ⟨hc, hi⟩)
  · simpa [hi] using h
set_option maxRecDepth 65536 in
theorem w_c0 : (Jvm.Cond.code x code maxLocals ret).before args0 about1 = true := code_word (m := ⟨1, 2⟩) (meth := k1m2) (c := k1c2) (by decide +kernel) rfl rfl rfl (by decide +kernel)
set_option maxRecDepth 65536 in
theorem w_c1 : (Jvm.Cond.code ({ cls := "com/example/laden_barge/ladenbarge/service/InternalBatchEqualsPinLaw", name := "st", desc := "(I)Lcom/example/laden_barge/ladenbarge/model/BatchState;" } : Jvm.MethodName) method_2_code (1 : Nat) (Option.some (Jvm.ClassFile.FieldType.object "com/example/laden_barge/ladenbarge/model/BatchState"))).before args0 about1 = true := code_word (m := ⟨1, 1⟩) (meth := k1m1) (c := k1c1) (by decide +kernel) rfl rfl rfl (by decide +kernel)
set_option maxRecDepth 65536 in
theorem w_c2 : (Jvm.Cond.code ({ cls := "com/example/laden_barge/ladenbarge/service/InternalBatch", name := "<init>", desc := "(ILcom/example/laden_barge/ladenbarge/model/BatchState;JJ)V" } : Jvm.MethodName) prog_46_method_1_code (7 : Nat) (Option.none : Option Jvm.ClassFile.FieldType)).before args0 about1 = true := code_word (m := ⟨2, 0⟩) (meth := k2m0) (c := k2c0) (by decide +kernel) rfl rfl rfl (by decide +kernel)
set_option maxRecDepth 65536 in
theorem w_c3 : (Jvm.Cond.code ({ cls := "java/lang/Object", name := "<init>", desc := "()V" } : Jvm.MethodName) object_method_1_code (1 : Nat) (Option.none : Option Jvm.ClassFile.FieldType)).before args0 about1 = true := code_word (m := ⟨0, 0⟩) (meth := k0m0) (c := k0c0) (by decide +kernel) rfl rfl rfl (by decide +kernel)
set_option maxRecDepth 65536 in
theorem w_c4 : (Jvm.Cond.code ({ cls := "java/lang/Integer", name := "valueOf", desc := "(I)Ljava/lang/Integer;" } : Jvm.MethodName) jdk_33_method_22_code (1 : Nat) (Option.some (Jvm.ClassFile.FieldType.object "java/lang/Integer"))).before args0 about1 = true := code_word (m := ⟨11, 0⟩) (meth := k11m0) (c := k11c0) (by decide +kernel) rfl rfl rfl (by decide +kernel)
set_option maxRecDepth 65536 in
theorem w_c5 : (Jvm.Cond.code ({ cls := "com/example/laden_barge/ladenbarge/service/InternalBatch", name := "equals", desc := "(Ljava/lang/Object;)Z" } : Jvm.MethodName) prog_46_method_6_code (3 : Nat) (Option.some Jvm.ClassFile.FieldType.boolean)).before args0 about1 = true := code_word (m := ⟨2, 1⟩) (meth := k2m1) (c := k2c1) (by decide +kernel) rfl rfl rfl (by decide +kernel)
set_option maxRecDepth 65536 in
theorem w_c6 : (Jvm.Cond.code ({ cls := "java/lang/Integer", name := "<init>", desc := "(I)V" } : Jvm.MethodName) jdk_33_method_23_code (2 : Nat) (Option.none : Option Jvm.ClassFile.FieldType)).before args0 about1 = true := code_word (m := ⟨11, 1⟩) (meth := k11m1) (c := k11c1) (by decide +kernel) rfl rfl rfl (by decide +kernel)
set_option maxRecDepth 65536 in
theorem w_c7 : (Jvm.Cond.code ({ cls := "java/lang/Number", name := "<init>", desc := "()V" } : Jvm.MethodName) jdk_18_method_1_code (1 : Nat) (Option.none : Option Jvm.ClassFile.FieldType)).before args0 about1 = true := code_word (m := ⟨9, 0⟩) (meth := k9m0) (c := k9c0) (by decide +kernel) rfl rfl rfl (by decide +kernel)
def codes1 : List Jvm.Cond := [Jvm.Cond.code x code maxLocals ret, Jvm.Cond.code ({ cls := "com/example/laden_barge/ladenbarge/service/InternalBatchEqualsPinLaw", name := "st", desc := "(I)Lcom/example/laden_barge/ladenbarge/model/BatchState;" } : Jvm.MethodName) method_2_code (1 : Nat) (Option.some (Jvm.ClassFile.FieldType.object "com/example/laden_barge/ladenbarge/model/BatchState")), Jvm.Cond.code ({ cls := "com/example/laden_barge/ladenbarge/service/InternalBatch", name := "<init>", desc := "(ILcom/example/laden_barge/ladenbarge/model/BatchState;JJ)V" } : Jvm.MethodName) prog_46_method_1_code (7 : Nat) (Option.none : Option Jvm.ClassFile.FieldType), Jvm.Cond.code ({ cls := "java/lang/Object", name := "<init>", desc := "()V" } : Jvm.MethodName) object_method_1_code (1 : Nat) (Option.none : Option Jvm.ClassFile.FieldType), Jvm.Cond.code ({ cls := "java/lang/Integer", name := "valueOf", desc := "(I)Ljava/lang/Integer;" } : Jvm.MethodName) jdk_33_method_22_code (1 : Nat) (Option.some (Jvm.ClassFile.FieldType.object "java/lang/Integer")), Jvm.Cond.code ({ cls := "com/example/laden_barge/ladenbarge/service/InternalBatch", name := "equals", desc := "(Ljava/lang/Object;)Z" } : Jvm.MethodName) prog_46_method_6_code (3 : Nat) (Option.some Jvm.ClassFile.FieldType.boolean), Jvm.Cond.code ({ cls := "java/lang/Integer", name := "<init>", desc := "(I)V" } : Jvm.MethodName) jdk_33_method_23_code (2 : Nat) (Option.none : Option Jvm.ClassFile.FieldType), Jvm.Cond.code ({ cls := "java/lang/Number", name := "<init>", desc := "()V" } : Jvm.MethodName) jdk_18_method_1_code (1 : Nat) (Option.none : Option Jvm.ClassFile.FieldType)]
set_option maxRecDepth 65536 in
theorem codes_eq : words1.filter isCode = codes1 := rfl
theorem w_codes : ∀ c ∈ words1.filter isCode, c.before args0 about1 = true := by
  rw [codes_eq]
  intro c hc
  simp only [codes1, List.mem_cons, List.not_mem_nil, or_false] at hc
  rcases hc with rfl | rfl | rfl | rfl | rfl | rfl | rfl | rfl
  · exact w_c0
  · exact w_c1
  · exact w_c2
  · exact w_c3
  · exact w_c4
  · exact w_c5
  · exact w_c6
  · exact w_c7
set_option maxRecDepth 65536 in
theorem w_t1 : (words1.take 24).all (fun c => isCode c || c.before args0 about1) = true := by decide +kernel
set_option maxRecDepth 65536 in
theorem w_t2 : ((words1.drop 24).take 24).all (fun c => isCode c || c.before args0 about1) = true := by decide +kernel
set_option maxRecDepth 65536 in
theorem w_t3 : ((words1.drop 24).drop 24).all (fun c => isCode c || c.before args0 about1) = true := by decide +kernel
theorem w_tables : (allAtoms (Jvm.Cond.code x code maxLocals ret :: tables_1)).before args0 about1 = true := by
  rw [allAtoms_all]
  show words1.all (fun c => c.before args0 about1) = true
  refine all_split ?_ w_codes
  rw [← List.take_append_drop 24 words1, List.all_append, w_t1, ← List.take_append_drop 24 (words1.drop 24), List.all_append, w_t2, w_t3]
  rfl
set_option maxRecDepth 65536 in
theorem w_rest : rest_1_c.before args0 about1 = true := by decide +kernel
set_option maxRecDepth 65536 in
theorem w_case : (Jvm.Cond.and given_1 narrow_1).before args0 about1 = true := by decide +kernel
theorem w_applies : (headSpec (Jvm.Cond.code x code maxLocals ret :: tables_1) room_1).applies x e0.platform about1 = true :=
  (Spec.applies_iff w_frames).mpr ⟨w_running, w_runnable, w_alone, w_named, w_hears, w_ripe, w_room, w_tables⟩
theorem atStart : AtStart classFile x code maxLocals ret World_1 tables_1 room_1 Calls_1 rest_1 Pre_1 launch0 p0 e0 about1 theMethod args0 below0 :=
  ⟨lists_1, trivial, launch0.admits_env _ _ _, launch0.least_env, fairChoices_fair.cas, fairChoices_fair.clock, w_frames, w_args, w_heap, w_applies, trivial, w_rest, w_case⟩
end start1
theorem witness_1 : WitnessClaimed_1 := ⟨start1.p0, start1.e0, start1.about1, start1.theMethod, start1.args0, start1.below0, start1.atStart⟩
end Jvm.Pilot.@@N@@
