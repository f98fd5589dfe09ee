import JvmDerived
import JvmDerived.Pilot.@@N@@Statement
import JvmDerived.Pilot.@@N@@Code
set_option linter.unusedVariables false
set_option linter.unusedSimpArgs false
namespace Jvm.Pilot.@@N@@
open Jvm Jvm.ClassFile Sem Op Lib Jvm.Free Jvm.Stand Jvm.LawKit Jvm.RoadKit Bundle Jvm.Pilot.@@N@@.Jvm.D
section OwnKit
variable {p : Program} {l : Launch} {e : Env} {R : Room} {s : State} {m : MethodId} {args : Array Value} {below : List Frame} {meth : Method} {c : Code} {T : State} {locs : List Loc} {cells slots kc ks : Nat} {Z : State} {a0 : Array Value} {own nm : String} {bytes : ByteArray} {ml : Nat} {ret : Option FieldType} {Q : Option Value → Heap → Prop} {h h' : Heap} {pc pc' : Nat} {ls ls' : Array Slot} {st st' rest : List Value}
/-- what is left to show where the run stands at S -/
def OGoal (p : Program) (e : Env) (below : List Frame) (s : State) (kc ks n0 : Nat) (Q : Option Value → Heap → Prop) (S : State) : Prop :=
  ∃ s₂ o, Steps p.tables e below S s₂ ∧ s₂.status = .running ∧ Ended s₂ below o ∧ ∃ v L, o = .returned v ∧ ((Q v s₂.heap ∧ s.heap.size ≤ s₂.heap.size) ∧ Fr n0 L) ∧ FrameEnd s o s₂ L kc ks
theorem OGoal.via {n0 : Nat} {S S' : State} (hs : ∀ t, Steps p.tables e below S' t → Steps p.tables e below S t) (g : OGoal p e below s kc ks n0 Q S') : OGoal p e below s kc ks n0 Q S := by
  obtain ⟨s2, o, h1, r⟩ := g
  exact ⟨s2, o, hs _ h1, r⟩
/-- what holds throughout a body -/
def OCtx (p : Program) (s : State) (m : MethodId) (meth : Method) (c : Code) (Z : State) (own nm : String) (bytes : ByteArray) (ml : Nat) (ret : Option FieldType) : Prop :=
  p.tables.exec = Jvm.exec ∧ Z.Warmed39 s.vm ∧ s.vm.findClass own = some m.cls ∧ c.code = bytes ∧ c.maxLocals = ml ∧ meth.sig.returnType = ret ∧ meth.locks = false ∧ meth.name = nm ∧ Ext Z.heap s.heap
/-- from every state with the heap h whose top frame is g the body comes to its end -/
def OG (p : Program) (l : Launch) (e : Env) (R : Room) (s : State) (m : MethodId) (args : Array Value) (below : List Frame) (meth : Method) (c : Code) (Z : State) (own nm : String) (bytes : ByteArray) (ml : Nat) (ret : Option FieldType) (Q : Option Value → Heap → Prop) (kc ks : Nat) (h : Heap) (cells slots : Nat) (g : JFrame) : Prop :=
  OCtx p s m meth c Z own nm bytes ml ret → ∀ T locs, Stand p l e R s m args below meth c T locs cells slots → T.heap = h → Fr Z.heap.size locs → OGoal p e below s kc ks Z.heap.size Q (T.setTop g)
theorem own_ext (X : Stand p l e R s m args below meth c T locs cells slots) (E : Ext Z.heap s.heap) (N : Fr Z.heap.size locs) : Ext Z.heap T.heap := by
  have q := X.same
  refine ⟨Nat.le_trans E.1 q.2.1, fun a cl hc => ?_⟩
  obtain ⟨c', h1, h2, h3, h4⟩ := q.2.2.2.2.2 a cl (E.2 a cl hc)
  have ha : a < Z.heap.size := (Array.getElem?_eq_some_iff.mp hc).1
  have e1 : c'.slots = cl.slots := Array.ext_getElem? fun i => h4 i fun hm => absurd (N _ hm) (Nat.not_le.mpr ha)
  rw [e1] at h2
  have e2 : c' = cl := h2
  rw [← e2]
  exact h1
/-- the contract of a body, at its arguments and heap -/
def OCtr (l : Launch) (Z : State) (y : MethodName) (yb : ByteArray) (yl : Nat) (yr : Option FieldType) (rm : Room) (as' : Array Value) (h0 : Heap) (yQ : Option Value → Heap → Prop) : Prop :=
  ∀ ws : List Jvm.Cond, MetFree l y (head1 (Jvm.Cond.code y yb yl yr :: ws) rm) (fun a U => a = as' ∧ Z.Warmed39 U.vm ∧ U.heap = h0) (fun _ _ _ _ _ => True) (fun _ U o U' => ∃ v L, o = .returned v ∧ ((yQ v U'.heap ∧ h0.size ≤ U'.heap.size) ∧ Fr Z.heap.size L) ∧ FrameEnd U o U' L rm.cells rm.slots)
theorem o_body {y : MethodName} {yb : ByteArray} {yl : Nat} {yr : Option FieldType} {rm : Room} {as' : Array Value} {h0 : Heap} {yQ : Option Value → Heap → Prop} {ls0 : Array Slot} (hpl : plainFor y = true) (hE : Ext Z.heap h0)
    (hef : ∀ m : MethodId, entryFrame m as' yl = mkF m 0 ls0 [])
    (k : ∀ (p : Program) (e : Env) (s : State) (m : MethodId) (below : List Frame) (meth : Method) (c : Code), OG p l e rm s m as' below meth c Z y.cls y.name yb yl yr yQ rm.cells rm.slots h0 0 0 (mkF m 0 ls0 [])) : OCtr l Z y yb yl yr rm as' h0 yQ := by
  intro ws
  refine MetFree.of_bodySF hpl hisR ?_
  intro p e s m args below meth c s₁ Bd hml0 hP hK
  obtain ⟨rfl, hZ, hh⟩ := hP
  have X0 : Stand p l e rm s m args below meth c s₁ [] 0 0 := Stand.of_body Bd
  have e0 : s₁.heap = h0 := by rw [← hh, Bd.state]; rfl
  have g := k p e s m below meth c ⟨Bd.exec, hZ, findClass_of_methodNamed Bd.named, Bd.bytes, hml0, Bd.returns, Bd.notSynchronized, (name_of_methodNamed Bd.named Bd.method).1, by rw [hh]; exact hE⟩ s₁ [] X0 e0 (Fr.nil _)
  rw [hef]
  rw [← hh]
  exact g
/-- a single step that leaves the heap -/
theorem o_pure {n : Nat} {i : Instr} (hd : decode bytes pc = .ok (i, n)) (hs : ∀ (T : State) (locs : List Loc), Stand p l e R s m args below meth c T locs cells slots → p.tables.exec = Jvm.exec → decode c.code pc = .ok (i, n) → ∀ t, Steps p.tables e below (T.setTop (mkF m pc' ls' st')) t → Steps p.tables e below (T.setTop (mkF m pc ls st)) t)
    (k : OG p l e R s m args below meth c Z own nm bytes ml ret Q kc ks h cells slots (mkF m pc' ls' st')) : OG p l e R s m args below meth c Z own nm bytes ml ret Q kc ks h cells slots (mkF m pc ls st) := by
  intro C T locs X eT N
  exact OGoal.via (hs T locs X C.1 (hb C.2.2.2.1 hd)) (k C T locs X eT N)
/-! pure instructions, as one function -/
def oBI (f : Int32 → Int32 → Int32) (st : List Value) (ls : Array Slot) : Option (List Value × Array Slot) :=
  match st with
  | .int y :: .int x :: r => some (.int (f x y) :: r, ls)
  | _ => none
def oBL (f : Int64 → Int64 → Int64) (st : List Value) (ls : Array Slot) : Option (List Value × Array Slot) :=
  match st with
  | .long y :: .long x :: r => some (.long (f x y) :: r, ls)
  | _ => none
def oBLI (f : Int64 → Int32 → Int64) (st : List Value) (ls : Array Slot) : Option (List Value × Array Slot) :=
  match st with
  | .int y :: .long x :: r => some (.long (f x y) :: r, ls)
  | _ => none
def oUI (f : Int32 → Int32) (st : List Value) (ls : Array Slot) : Option (List Value × Array Slot) :=
  match st with
  | .int x :: r => some (.int (f x) :: r, ls)
  | _ => none
def oLdI (k : Nat) (st : List Value) (ls : Array Slot) : Option (List Value × Array Slot) :=
  match ls[k]? with
  | some (.val (.int v)) => some (.int v :: st, ls)
  | _ => none
def oLdL (k : Nat) (st : List Value) (ls : Array Slot) : Option (List Value × Array Slot) :=
  match ls[k]? with
  | some (.val (.long v)) => some (.long v :: st, ls)
  | _ => none
def oLdA (k : Nat) (st : List Value) (ls : Array Slot) : Option (List Value × Array Slot) :=
  match ls[k]? with
  | some (.val (.ref v)) => some (.ref v :: st, ls)
  | some (.val .null) => some (.null :: st, ls)
  | _ => none
def oStI (k : Nat) (st : List Value) (ls : Array Slot) : Option (List Value × Array Slot) :=
  match st with
  | .int v :: r => (storeLocals ls k (.int v)).map fun l' => (r, l')
  | _ => none
def oStL (k : Nat) (st : List Value) (ls : Array Slot) : Option (List Value × Array Slot) :=
  match st with
  | .long v :: r => (storeLocals ls k (.long v)).map fun l' => (r, l')
  | _ => none
def oStA (k : Nat) (st : List Value) (ls : Array Slot) : Option (List Value × Array Slot) :=
  match st with
  | .ref v :: r => (storeLocals ls k (.ref v)).map fun l' => (r, l')
  | .null :: r => (storeLocals ls k .null).map fun l' => (r, l')
  | _ => none
def oInc (k : Nat) (q : Int) (st : List Value) (ls : Array Slot) : Option (List Value × Array Slot) :=
  match ls[k]? with
  | some (.val (.int v)) => (storeLocals ls k (.int (v + Int32.ofInt q))).map fun l' => (st, l')
  | _ => none
def oI2L (st : List Value) (ls : Array Slot) : Option (List Value × Array Slot) :=
  match st with
  | .int x :: r => some (.long x.toInt64 :: r, ls)
  | _ => none
def oL2I (st : List Value) (ls : Array Slot) : Option (List Value × Array Slot) :=
  match st with
  | .long x :: r => some (.int x.toInt32 :: r, ls)
  | _ => none
def oCmp (st : List Value) (ls : Array Slot) : Option (List Value × Array Slot) :=
  match st with
  | .long y :: .long x :: r => some (.int (XT.cmpL x y) :: r, ls)
  | _ => none
def oDup (st : List Value) (ls : Array Slot) : Option (List Value × Array Slot) :=
  match st with
  | .int x :: r => some (.int x :: .int x :: r, ls)
  | .ref x :: r => some (.ref x :: .ref x :: r, ls)
  | _ => none
def oPop (st : List Value) (ls : Array Slot) : Option (List Value × Array Slot) :=
  match st with
  | .int _ :: r => some (r, ls)
  | .ref _ :: r => some (r, ls)
  | .null :: r => some (r, ls)
  | _ => none
def oLen : Instr → Nat
  | .iload _ | .lload _ | .aload _ | .istore _ | .lstore _ | .astore _ | .bipush _ => 2
  | .sipush _ | .iinc _ _ => 3
  | _ => 1
def opS (i : Instr) (st : List Value) (ls : Array Slot) : Option (List Value × Array Slot) :=
  match i with
  | .iconst k => some (.int (Int32.ofInt k) :: st, ls)
  | .bipush k => some (.int (Int8.ofInt k).toInt32 :: st, ls)
  | .sipush k => some (.int (Int16.ofInt k).toInt32 :: st, ls)
  | .lconst k => some (.long (Int64.ofNat k) :: st, ls)
  | .aconst_null => some (.null :: st, ls)
  | .iload k => oLdI k st ls
  | .iload_n k => oLdI k.val st ls
  | .lload k => oLdL k st ls
  | .lload_n k => oLdL k.val st ls
  | .aload k => oLdA k st ls
  | .aload_n k => oLdA k.val st ls
  | .istore k => oStI k st ls
  | .istore_n k => oStI k.val st ls
  | .lstore k => oStL k st ls
  | .lstore_n k => oStL k.val st ls
  | .astore k => oStA k st ls
  | .astore_n k => oStA k.val st ls
  | .iinc k q => oInc k q st ls
  | .iadd => oBI (fun x y => x + y) st ls
  | .isub => oBI (fun x y => x - y) st ls
  | .imul => oBI (fun x y => x * y) st ls
  | .iand => oBI (fun x y => x &&& y) st ls
  | .ior => oBI (fun x y => x ||| y) st ls
  | .ixor => oBI (fun x y => x ^^^ y) st ls
  | .ishl => oBI (fun x y => x <<< (y &&& 31)) st ls
  | .ishr => oBI (fun x y => x >>> (y &&& 31)) st ls
  | .iushr => oBI (fun x y => XT.ushr x y) st ls
  | .ladd => oBL (fun x y => x + y) st ls
  | .lsub => oBL (fun x y => x - y) st ls
  | .lmul => oBL (fun x y => x * y) st ls
  | .land => oBL (fun x y => x &&& y) st ls
  | .lor => oBL (fun x y => x ||| y) st ls
  | .lxor => oBL (fun x y => x ^^^ y) st ls
  | .lshl => oBLI (fun x y => x <<< (y.toInt64 &&& 63)) st ls
  | .lshr => oBLI (fun x y => x >>> (y.toInt64 &&& 63)) st ls
  | .lushr => oBLI (fun x y => XT.ushrL x y) st ls
  | .i2b => oUI (fun x => x.toInt8.toInt32) st ls
  | .i2c => oUI (fun x => x.toUInt32.toUInt16.toUInt32.toInt32) st ls
  | .i2s => oUI (fun x => x.toInt16.toInt32) st ls
  | .ineg => oUI (fun x => -x) st ls
  | .i2l => oI2L st ls
  | .l2i => oL2I st ls
  | .lcmp => oCmp st ls
  | .dup => oDup st ls
  | .pop => oPop st ls
  | _ => none
/-- the instructions from pc on, one behind the other; what stands behind them -/
def oBlk (code : ByteArray) : Nat → List Instr → Option Nat
  | pc, [] => some pc
  | pc, i :: is => if decode code pc = .ok (i, oLen i) then oBlk code (pc + oLen i) is else none
def oRun : List Instr → List Value → Array Slot → Option (List Value × Array Slot)
  | [], st, ls => some (st, ls)
  | i :: is, st, ls => match opS i st ls with
    | some (st', ls') => oRun is st' ls'
    | none => none
theorem oBI_inv {f : Int32 → Int32 → Int32} {r : List Value × Array Slot} (q : oBI f st ls = some r) : ∃ x y t, st = .int y :: .int x :: t ∧ r = (.int (f x y) :: t, ls) := by
  unfold oBI at q
  split at q
  · exact ⟨_, _, _, rfl, (Option.some.inj q).symm⟩
  · cases q
theorem oBL_inv {f : Int64 → Int64 → Int64} {r : List Value × Array Slot} (q : oBL f st ls = some r) : ∃ x y t, st = .long y :: .long x :: t ∧ r = (.long (f x y) :: t, ls) := by
  unfold oBL at q
  split at q
  · exact ⟨_, _, _, rfl, (Option.some.inj q).symm⟩
  · cases q
theorem oBLI_inv {f : Int64 → Int32 → Int64} {r : List Value × Array Slot} (q : oBLI f st ls = some r) : ∃ x y t, st = .int y :: .long x :: t ∧ r = (.long (f x y) :: t, ls) := by
  unfold oBLI at q
  split at q
  · exact ⟨_, _, _, rfl, (Option.some.inj q).symm⟩
  · cases q
theorem oUI_inv {f : Int32 → Int32} {r : List Value × Array Slot} (q : oUI f st ls = some r) : ∃ x t, st = .int x :: t ∧ r = (.int (f x) :: t, ls) := by
  unfold oUI at q
  split at q
  · exact ⟨_, _, rfl, (Option.some.inj q).symm⟩
  · cases q
theorem oLdI_inv {k : Nat} {r : List Value × Array Slot} (q : oLdI k st ls = some r) : ∃ v, ls[k]? = some (.val (.int v)) ∧ r = (.int v :: st, ls) := by
  unfold oLdI at q
  split at q
  · next v hv => exact ⟨v, hv, (Option.some.inj q).symm⟩
  · cases q
theorem oLdL_inv {k : Nat} {r : List Value × Array Slot} (q : oLdL k st ls = some r) : ∃ v, ls[k]? = some (.val (.long v)) ∧ r = (.long v :: st, ls) := by
  unfold oLdL at q
  split at q
  · next v hv => exact ⟨v, hv, (Option.some.inj q).symm⟩
  · cases q
theorem oLdA_inv {k : Nat} {r : List Value × Array Slot} (q : oLdA k st ls = some r) : ∃ v, ls[k]? = some (.val v) ∧ v.isRef = true ∧ r = (v :: st, ls) := by
  unfold oLdA at q
  split at q
  · next v hv => exact ⟨.ref v, hv, rfl, (Option.some.inj q).symm⟩
  · next hv => exact ⟨.null, hv, rfl, (Option.some.inj q).symm⟩
  · cases q
theorem own_map {o : Option (Array Slot)} {t : List Value} {r : List Value × Array Slot} (q : o.map (fun l' => (t, l')) = some r) : ∃ l', o = some l' ∧ r = (t, l') := by
  cases o with
  | none => cases q
  | some l' => exact ⟨l', rfl, (Option.some.inj q).symm⟩
theorem oStI_inv {k : Nat} {r : List Value × Array Slot} (q : oStI k st ls = some r) : ∃ v t l', st = .int v :: t ∧ storeLocals ls k (.int v) = some l' ∧ r = (t, l') := by
  unfold oStI at q
  split at q
  · obtain ⟨l', h1, h2⟩ := own_map q; exact ⟨_, _, l', rfl, h1, h2⟩
  · cases q
theorem oStL_inv {k : Nat} {r : List Value × Array Slot} (q : oStL k st ls = some r) : ∃ v t l', st = .long v :: t ∧ storeLocals ls k (.long v) = some l' ∧ r = (t, l') := by
  unfold oStL at q
  split at q
  · obtain ⟨l', h1, h2⟩ := own_map q; exact ⟨_, _, l', rfl, h1, h2⟩
  · cases q
theorem oStA_inv {k : Nat} {r : List Value × Array Slot} (q : oStA k st ls = some r) : ∃ v t l', st = v :: t ∧ v.isRef = true ∧ storeLocals ls k v = some l' ∧ r = (t, l') := by
  unfold oStA at q
  split at q
  · obtain ⟨l', h1, h2⟩ := own_map q; exact ⟨_, _, l', rfl, rfl, h1, h2⟩
  · obtain ⟨l', h1, h2⟩ := own_map q; exact ⟨_, _, l', rfl, rfl, h1, h2⟩
  · cases q
theorem oInc_inv {k : Nat} {z : Int} {r : List Value × Array Slot} (q : oInc k z st ls = some r) : ∃ v l', ls[k]? = some (.val (.int v)) ∧ storeLocals ls k (.int (v + Int32.ofInt z)) = some l' ∧ r = (st, l') := by
  unfold oInc at q
  split at q
  · next v hv => obtain ⟨l', h1, h2⟩ := own_map q; exact ⟨v, l', hv, h1, h2⟩
  · cases q
theorem oI2L_inv {r : List Value × Array Slot} (q : oI2L st ls = some r) : ∃ x t, st = .int x :: t ∧ r = (.long x.toInt64 :: t, ls) := by
  unfold oI2L at q
  split at q
  · exact ⟨_, _, rfl, (Option.some.inj q).symm⟩
  · cases q
theorem oL2I_inv {r : List Value × Array Slot} (q : oL2I st ls = some r) : ∃ x t, st = .long x :: t ∧ r = (.int x.toInt32 :: t, ls) := by
  unfold oL2I at q
  split at q
  · exact ⟨_, _, rfl, (Option.some.inj q).symm⟩
  · cases q
theorem oCmp_inv {r : List Value × Array Slot} (q : oCmp st ls = some r) : ∃ x y t, st = .long y :: .long x :: t ∧ r = (.int (XT.cmpL x y) :: t, ls) := by
  unfold oCmp at q
  split at q
  · exact ⟨_, _, _, rfl, (Option.some.inj q).symm⟩
  · cases q
theorem oDup_inv {r : List Value × Array Slot} (q : oDup st ls = some r) : ∃ x t, st = x :: t ∧ x.category = 1 ∧ r = (x :: x :: t, ls) := by
  unfold oDup at q
  split at q
  · exact ⟨_, _, rfl, rfl, (Option.some.inj q).symm⟩
  · exact ⟨_, _, rfl, rfl, (Option.some.inj q).symm⟩
  · cases q
theorem oPop_inv {r : List Value × Array Slot} (q : oPop st ls = some r) : ∃ x t, st = x :: t ∧ x.category = 1 ∧ r = (t, ls) := by
  unfold oPop at q
  split at q
  · exact ⟨_, _, rfl, rfl, (Option.some.inj q).symm⟩
  · exact ⟨_, _, rfl, rfl, (Option.some.inj q).symm⟩
  · exact ⟨_, _, rfl, rfl, (Option.some.inj q).symm⟩
  · cases q
theorem o_op {i : Instr} (hd : decode bytes pc = .ok (i, oLen i)) (q : opS i st ls = some (st', ls'))
    (k : OG p l e R s m args below meth c Z own nm bytes ml ret Q kc ks h cells slots (mkF m (pc + oLen i) ls' st')) : OG p l e R s m args below meth c Z own nm bytes ml ret Q kc ks h cells slots (mkF m pc ls st) := by
  refine o_pure hd (fun T locs X hx hd t kk => ?_) k
  cases i with
  | iconst z => cases q; exact XS.iconst X.here hx rfl hd kk
  | bipush z => cases q; exact XS.bipush X.here hx rfl hd kk
  | sipush z => cases q; exact XS.sipush X.here hx rfl hd kk
  | lconst z => cases q; exact XT.lconst X.here hx rfl hd kk
  | aconst_null => cases q; exact XS.aconstNull X.here hx rfl hd kk
  | iload z => obtain ⟨v, h1, h3⟩ := oLdI_inv q; cases h3; exact XS.iload X.here hx rfl hd h1 kk
  | iload_n z => obtain ⟨v, h1, h3⟩ := oLdI_inv q; cases h3; exact XS.iloadN X.here hx rfl hd h1 kk
  | lload z => obtain ⟨v, h1, h3⟩ := oLdL_inv q; cases h3; exact XT.lload X.here hx rfl hd h1 kk
  | lload_n z => obtain ⟨v, h1, h3⟩ := oLdL_inv q; cases h3; exact XT.lloadN X.here hx rfl hd h1 kk
  | aload z => obtain ⟨v, h1, h2, h3⟩ := oLdA_inv q; cases h3; exact XS.aload X.here hx rfl hd h1 h2 kk
  | aload_n z => obtain ⟨v, h1, h2, h3⟩ := oLdA_inv q; cases h3; exact XS.aloadN X.here hx rfl hd h1 h2 kk
  | istore z => obtain ⟨v, r, l', rfl, h2, h3⟩ := oStI_inv q; cases h3; exact XS.istore X.here hx rfl hd rfl h2 kk
  | istore_n z => obtain ⟨v, r, l', rfl, h2, h3⟩ := oStI_inv q; cases h3; exact XS.istoreN X.here hx rfl hd rfl h2 kk
  | lstore z => obtain ⟨v, r, l', rfl, h2, h3⟩ := oStL_inv q; cases h3; exact XT.lstore X.here hx rfl hd rfl h2 kk
  | lstore_n z => obtain ⟨v, r, l', rfl, h2, h3⟩ := oStL_inv q; cases h3; exact XT.lstoreN X.here hx rfl hd rfl h2 kk
  | astore z => obtain ⟨v, r, l', rfl, h1, h2, h3⟩ := oStA_inv q; cases h3; exact XS.astore X.here hx rfl hd rfl h1 h2 kk
  | astore_n z => obtain ⟨v, r, l', rfl, h1, h2, h3⟩ := oStA_inv q; cases h3; exact XS.astoreN X.here hx rfl hd rfl h1 h2 kk
  | iinc z y => obtain ⟨v, l', h1, h2, h3⟩ := oInc_inv q; cases h3; exact XS.iinc X.here hx rfl hd h1 h2 kk
  | iadd => obtain ⟨x, y, r, rfl, h3⟩ := oBI_inv q; cases h3; exact XS.iadd X.here hx rfl hd rfl kk
  | isub => obtain ⟨x, y, r, rfl, h3⟩ := oBI_inv q; cases h3; exact XS.isub X.here hx rfl hd rfl kk
  | imul => obtain ⟨x, y, r, rfl, h3⟩ := oBI_inv q; cases h3; exact XS.imul X.here hx rfl hd rfl kk
  | iand => obtain ⟨x, y, r, rfl, h3⟩ := oBI_inv q; cases h3; exact XS.iand X.here hx rfl hd rfl kk
  | ior => obtain ⟨x, y, r, rfl, h3⟩ := oBI_inv q; cases h3; exact XT.ior X.here hx rfl hd rfl kk
  | ixor => obtain ⟨x, y, r, rfl, h3⟩ := oBI_inv q; cases h3; exact XT.ixor X.here hx rfl hd rfl kk
  | ishl => obtain ⟨x, y, r, rfl, h3⟩ := oBI_inv q; cases h3; exact XT.ishl X.here hx rfl hd rfl kk
  | ishr => obtain ⟨x, y, r, rfl, h3⟩ := oBI_inv q; cases h3; exact XT.ishr X.here hx rfl hd rfl kk
  | iushr => obtain ⟨x, y, r, rfl, h3⟩ := oBI_inv q; cases h3; exact XT.iushr X.here hx rfl hd rfl kk
  | ladd => obtain ⟨x, y, r, rfl, h3⟩ := oBL_inv q; cases h3; exact XT.ladd X.here hx rfl hd rfl kk
  | lsub => obtain ⟨x, y, r, rfl, h3⟩ := oBL_inv q; cases h3; exact XT.lsub X.here hx rfl hd rfl kk
  | lmul => obtain ⟨x, y, r, rfl, h3⟩ := oBL_inv q; cases h3; exact XT.lmul X.here hx rfl hd rfl kk
  | land => obtain ⟨x, y, r, rfl, h3⟩ := oBL_inv q; cases h3; exact XT.land X.here hx rfl hd rfl kk
  | lor => obtain ⟨x, y, r, rfl, h3⟩ := oBL_inv q; cases h3; exact XT.lor X.here hx rfl hd rfl kk
  | lxor => obtain ⟨x, y, r, rfl, h3⟩ := oBL_inv q; cases h3; exact XT.lxor X.here hx rfl hd rfl kk
  | lshl => obtain ⟨x, y, r, rfl, h3⟩ := oBLI_inv q; cases h3; exact XT.lshl X.here hx rfl hd rfl kk
  | lshr => obtain ⟨x, y, r, rfl, h3⟩ := oBLI_inv q; cases h3; exact XT.lshr X.here hx rfl hd rfl kk
  | lushr => obtain ⟨x, y, r, rfl, h3⟩ := oBLI_inv q; cases h3; exact XT.lushr X.here hx rfl hd rfl kk
  | i2b => obtain ⟨x, r, rfl, h3⟩ := oUI_inv q; cases h3; exact XT.i2b X.here hx rfl hd rfl kk
  | i2c => obtain ⟨x, r, rfl, h3⟩ := oUI_inv q; cases h3; exact XT.i2c X.here hx rfl hd rfl kk
  | i2s => obtain ⟨x, r, rfl, h3⟩ := oUI_inv q; cases h3; exact XT.i2s X.here hx rfl hd rfl kk
  | ineg => obtain ⟨x, r, rfl, h3⟩ := oUI_inv q; cases h3; exact XS.ineg X.here hx rfl hd rfl kk
  | i2l => obtain ⟨x, r, rfl, h3⟩ := oI2L_inv q; cases h3; exact XT.i2l X.here hx rfl hd rfl kk
  | l2i => obtain ⟨x, r, rfl, h3⟩ := oL2I_inv q; cases h3; exact XT.l2i X.here hx rfl hd rfl kk
  | lcmp => obtain ⟨x, y, r, rfl, h3⟩ := oCmp_inv q; cases h3; exact XT.lcmp X.here hx rfl hd rfl kk
  | dup => obtain ⟨x, r, rfl, hc, h3⟩ := oDup_inv q; cases h3; exact XS.dup X.here hx rfl hd rfl hc kk
  | pop => obtain ⟨x, r, rfl, hc, h3⟩ := oPop_inv q; cases h3; exact XT.pop X.here hx rfl hd rfl hc kk
  | _ => cases q
theorem o_blk : ∀ {is : List Instr} {pc : Nat} {st : List Value} {ls : Array Slot}, oBlk bytes pc is = some pc' → oRun is st ls = some (st', ls') →
    OG p l e R s m args below meth c Z own nm bytes ml ret Q kc ks h cells slots (mkF m pc' ls' st') → OG p l e R s m args below meth c Z own nm bytes ml ret Q kc ks h cells slots (mkF m pc ls st)
  | [], pc, st, ls, hb, hr, k => by
    cases hb; cases hr; exact k
  | i :: is, pc, st, ls, hb, hr, k => by
    unfold oBlk at hb
    split at hb
    · next hd =>
      unfold oRun at hr
      split at hr
      · next st1 ls1 hq => exact o_op hd hq (o_blk hb hr k)
      · cases hr
    · cases hb
/-! branches -/
def oC : ClassFile.Cond → Int32 → Int32 → Prop
  | .eq, x, y => x = y
  | .ne, x, y => ¬ x = y
  | .lt, x, y => x < y
  | .ge, x, y => ¬ x < y
  | .gt, x, y => y < x
  | .le, x, y => ¬ y < x
def oCn : ClassFile.Cond → Int32 → Int32 → Prop
  | .eq, x, y => ¬ x = y
  | .ne, x, y => x = y
  | .lt, x, y => ¬ x < y
  | .ge, x, y => x < y
  | .gt, x, y => ¬ y < x
  | .le, x, y => y < x
theorem oC_yes {cd : ClassFile.Cond} {x y : Int32} (q : oC cd x y) : if_icmp.holds cd x y = true := by
  cases cd
  · exact (teq q).1
  · exact (feq q).2
  · exact (tlt q).1
  · exact (flt q).2.1
  · exact (tlt q).2.2.1
  · exact (flt q).2.2.2
theorem oC_no {cd : ClassFile.Cond} {x y : Int32} (q : oCn cd x y) : if_icmp.holds cd x y = false := by
  cases cd
  · exact (feq q).1
  · exact (teq q).2
  · exact (flt q).1
  · exact (tlt q).2.1
  · exact (flt q).2.2.1
  · exact (tlt q).2.2.2
theorem oC_or (cd : ClassFile.Cond) (x y : Int32) : oC cd x y ∨ oCn cd x y := by
  cases cd
  · exact Classical.em _
  · exact (Classical.em (x = y)).symm
  · exact Classical.em _
  · exact (Classical.em (x < y)).symm
  · exact Classical.em _
  · exact (Classical.em (y < x)).symm
theorem o_ifY {cd : ClassFile.Cond} {o : Int} {x : Int32} (hd : decode bytes pc = .ok (.ifCond cd o, 3)) (ho : 0 ≤ (pc : Int) + o) (hp : ((pc : Int) + o).toNat = pc') (hc : oC cd x 0)
    (k : OG p l e R s m args below meth c Z own nm bytes ml ret Q kc ks h cells slots (mkF m pc' ls rest)) : OG p l e R s m args below meth c Z own nm bytes ml ret Q kc ks h cells slots (mkF m pc ls (.int x :: rest)) :=
  o_pure hd (fun T locs X hx hd t kk => XS.ifYes X.here hx rfl (pc0 := pc) rfl hd rfl (by rw [if0]; exact oC_yes hc) ho hp kk) k
theorem o_ifN {cd : ClassFile.Cond} {o : Int} {x : Int32} (hd : decode bytes pc = .ok (.ifCond cd o, 3)) (hp : pc + 3 = pc') (hc : oCn cd x 0)
    (k : OG p l e R s m args below meth c Z own nm bytes ml ret Q kc ks h cells slots (mkF m pc' ls rest)) : OG p l e R s m args below meth c Z own nm bytes ml ret Q kc ks h cells slots (mkF m pc ls (.int x :: rest)) :=
  o_pure hd (fun T locs X hx hd t kk => XS.ifNo X.here hx rfl hd rfl (by rw [if0]; exact oC_no hc) (by subst hp; exact kk)) k
theorem o_if {cd : ClassFile.Cond} {o : Int} {x : Int32} {pc'' : Nat} (hd : decode bytes pc = .ok (.ifCond cd o, 3)) (ho : 0 ≤ (pc : Int) + o) (hp : ((pc : Int) + o).toNat = pc') (hp' : pc + 3 = pc'')
    (ky : oC cd x 0 → OG p l e R s m args below meth c Z own nm bytes ml ret Q kc ks h cells slots (mkF m pc' ls rest)) (kn : oCn cd x 0 → OG p l e R s m args below meth c Z own nm bytes ml ret Q kc ks h cells slots (mkF m pc'' ls rest)) : OG p l e R s m args below meth c Z own nm bytes ml ret Q kc ks h cells slots (mkF m pc ls (.int x :: rest)) :=
  (oC_or cd x 0).elim (fun q => o_ifY hd ho hp q (ky q)) (fun q => o_ifN hd hp' q (kn q))
theorem o_icY {cd : ClassFile.Cond} {o : Int} {x y : Int32} (hd : decode bytes pc = .ok (.if_icmp cd o, 3)) (ho : 0 ≤ (pc : Int) + o) (hp : ((pc : Int) + o).toNat = pc') (hc : oC cd x y)
    (k : OG p l e R s m args below meth c Z own nm bytes ml ret Q kc ks h cells slots (mkF m pc' ls rest)) : OG p l e R s m args below meth c Z own nm bytes ml ret Q kc ks h cells slots (mkF m pc ls (.int y :: .int x :: rest)) :=
  o_pure hd (fun T locs X hx hd t kk => XS.icmpYes X.here hx rfl (pc0 := pc) rfl hd rfl (oC_yes hc) ho hp kk) k
theorem o_icN {cd : ClassFile.Cond} {o : Int} {x y : Int32} (hd : decode bytes pc = .ok (.if_icmp cd o, 3)) (hp : pc + 3 = pc') (hc : oCn cd x y)
    (k : OG p l e R s m args below meth c Z own nm bytes ml ret Q kc ks h cells slots (mkF m pc' ls rest)) : OG p l e R s m args below meth c Z own nm bytes ml ret Q kc ks h cells slots (mkF m pc ls (.int y :: .int x :: rest)) :=
  o_pure hd (fun T locs X hx hd t kk => XS.icmpNo X.here hx rfl hd rfl (oC_no hc) (by subst hp; exact kk)) k
theorem o_ic {cd : ClassFile.Cond} {o : Int} {x y : Int32} {pc'' : Nat} (hd : decode bytes pc = .ok (.if_icmp cd o, 3)) (ho : 0 ≤ (pc : Int) + o) (hp : ((pc : Int) + o).toNat = pc') (hp' : pc + 3 = pc'')
    (ky : oC cd x y → OG p l e R s m args below meth c Z own nm bytes ml ret Q kc ks h cells slots (mkF m pc' ls rest)) (kn : oCn cd x y → OG p l e R s m args below meth c Z own nm bytes ml ret Q kc ks h cells slots (mkF m pc'' ls rest)) : OG p l e R s m args below meth c Z own nm bytes ml ret Q kc ks h cells slots (mkF m pc ls (.int y :: .int x :: rest)) :=
  (oC_or cd x y).elim (fun q => o_icY hd ho hp q (ky q)) (fun q => o_icN hd hp' q (kn q))
def oA : ClassFile.ACond → Value → Value → Prop
  | .eq, x, y => x = y
  | .ne, x, y => ¬ x = y
def oAn : ClassFile.ACond → Value → Value → Prop
  | .eq, x, y => ¬ x = y
  | .ne, x, y => x = y
theorem o_acY {cd : ClassFile.ACond} {o : Int} {x y : Value} (hd : decode bytes pc = .ok (.if_acmp cd o, 3)) (hx' : x.isRef = true) (hy' : y.isRef = true) (ho : 0 ≤ (pc : Int) + o) (hp : ((pc : Int) + o).toNat = pc') (hc : oA cd x y)
    (k : OG p l e R s m args below meth c Z own nm bytes ml ret Q kc ks h cells slots (mkF m pc' ls rest)) : OG p l e R s m args below meth c Z own nm bytes ml ret Q kc ks h cells slots (mkF m pc ls (y :: x :: rest)) :=
  o_pure hd (fun T locs X hx hd t kk => XT.acmpYes X.here hx rfl (pc0 := pc) rfl hd rfl hx' hy' (by cases cd <;> exact decide_eq_true hc) ho hp kk) k
theorem o_acN {cd : ClassFile.ACond} {o : Int} {x y : Value} (hd : decode bytes pc = .ok (.if_acmp cd o, 3)) (hx' : x.isRef = true) (hy' : y.isRef = true) (hp : pc + 3 = pc') (hc : oAn cd x y)
    (k : OG p l e R s m args below meth c Z own nm bytes ml ret Q kc ks h cells slots (mkF m pc' ls rest)) : OG p l e R s m args below meth c Z own nm bytes ml ret Q kc ks h cells slots (mkF m pc ls (y :: x :: rest)) :=
  o_pure hd (fun T locs X hx hd t kk => XT.acmpNo X.here hx rfl hd rfl hx' hy' (by cases cd <;> first | exact decide_eq_false hc | exact decide_eq_false (fun q => q hc)) (by subst hp; exact kk)) k
theorem o_goto {o : Int} (hd : decode bytes pc = .ok (.goto o, 3)) (ho : 0 ≤ (pc : Int) + o) (hp : ((pc : Int) + o).toNat = pc')
    (k : OG p l e R s m args below meth c Z own nm bytes ml ret Q kc ks h cells slots (mkF m pc' ls st)) : OG p l e R s m args below meth c Z own nm bytes ml ret Q kc ks h cells slots (mkF m pc ls st) :=
  o_pure hd (fun T locs X hx hd t kk => XS.goto X.here hx rfl (pc0 := pc) rfl hd ho hp kk) k
theorem o_irem {x y : Int32} (hd : decode bytes pc = .ok (.irem, 1)) (hy : y ≠ 0) (hp : pc + 1 = pc')
    (k : OG p l e R s m args below meth c Z own nm bytes ml ret Q kc ks h cells slots (mkF m pc' ls (.int (x % y) :: rest))) : OG p l e R s m args below meth c Z own nm bytes ml ret Q kc ks h cells slots (mkF m pc ls (.int y :: .int x :: rest)) :=
  o_pure hd (fun T locs X hx hd t kk => iremM X hx rfl hd rfl hy (by subst hp; exact kk)) k
theorem o_idiv {x y : Int32} (hd : decode bytes pc = .ok (.idiv, 1)) (hy : y ≠ 0) (hp : pc + 1 = pc')
    (k : OG p l e R s m args below meth c Z own nm bytes ml ret Q kc ks h cells slots (mkF m pc' ls (.int (x / y) :: rest))) : OG p l e R s m args below meth c Z own nm bytes ml ret Q kc ks h cells slots (mkF m pc ls (.int y :: .int x :: rest)) :=
  o_pure hd (fun T locs X hx hd t kk => XS.idiv X.here hx rfl hd rfl hy (by subst hp; exact kk)) k
/-! constants, statics -/
theorem o_ldc {index : Nat} {v : Int32} (w : (Cond.constant own index v).before a0 Z = true) (hd : decode bytes pc = .ok (.ldc index, 2)) (hp : pc + 2 = pc')
    (k : OG p l e R s m args below meth c Z own nm bytes ml ret Q kc ks h cells slots (mkF m pc' ls (.int v :: st))) : OG p l e R s m args below meth c Z own nm bytes ml ret Q kc ks h cells slots (mkF m pc ls st) := by
  intro C T locs X eT N
  refine OGoal.via (fun t kk => X.ldcInt C.1 C.2.2.1 (mvT C.2.1 w) (g := mkF m pc ls st) rfl (hb C.2.2.2.1 hd) t ?_) (k C T locs X eT N)
  subst hp
  exact kk
theorem o_ldc2 {index : Nat} {v : Int64} (w : (Cond.constantLong own index v).before a0 Z = true) (hd : decode bytes pc = .ok (.ldc2_w index, 3)) (hp : pc + 3 = pc')
    (k : OG p l e R s m args below meth c Z own nm bytes ml ret Q kc ks h cells slots (mkF m pc' ls (.long v :: st))) : OG p l e R s m args below meth c Z own nm bytes ml ret Q kc ks h cells slots (mkF m pc ls st) := by
  intro C T locs X eT N
  refine OGoal.via (fun t kk => X.ldc2Long C.1 C.2.2.1 (mvT C.2.1 w) (g := mkF m pc ls st) rfl (hb C.2.2.2.1 hd) t ?_) (k C T locs X eT N)
  subst hp
  exact kk
theorem o_getS {O n d : String} {index : Nat} {v : Value} (w : (Cond.fieldLink own index O n d).before a0 Z = true) (F : Sta Z Z.heap O n d v) (hd : decode bytes pc = .ok (.getstatic index, 3)) (hp : pc + 3 = pc')
    (k : OG p l e R s m args below meth c Z own nm bytes ml ret Q kc ks h cells slots (mkF m pc' ls (v :: st))) : OG p l e R s m args below meth c Z own nm bytes ml ret Q kc ks h cells slots (mkF m pc ls st) := by
  intro C T locs X eT N
  obtain ⟨T', X', e', stp⟩ := getS (host := "") X C.1 C.2.1 C.2.2.1 w Via.refl eT (F.ext (eT ▸ own_ext X C.2.2.2.2.2.2.2.2 N)) (g := mkF m pc ls st) rfl (hb C.2.2.2.1 hd)
  subst hp
  exact OGoal.via stp (k C T' locs X' e' N)
/-! returns -/
theorem own_end {v : Option Value} {S : State} (X : Stand p l e R s m args below meth c T locs cells slots) (hlk : meth.locks = false) (hv : meth.sig.returnType = none → v = none) (hc : cells ≤ kc) (hs : slots ≤ ks) (N : Fr Z.heap.size locs) (eT : T.heap = h) (hq : Q v h)
    (stp : ∀ fs, (∀ (f : JFrame) (acts : List Action), f.method = m → f.locked = none → f.entered = [] → (doReturn e (T.setTop f) acts v).1 = T.setFrames fs) → Steps p.tables e below S (T.setFrames fs)) : OGoal p e below s kc ks Z.heap.size Q S := by
  obtain ⟨fs, hr, hrun, hended, hW, hsame⟩ := X.leave (v := v) hv hlk
  exact ⟨_, _, stp fs hr, hrun, hended, v, locs, rfl, ⟨⟨by rw [show (T.setFrames fs).heap = h from eT]; exact hq, X.same.2.1⟩, N⟩, ⟨v, rfl⟩, hW, hsame.mono hc hs⟩
theorem o_retI {z : Int32} (hd : decode bytes pc = .ok (.ireturn, 1)) (hc : cells ≤ kc) (hs : slots ≤ ks) (hr : ret = some .int) (hq : Q (some (.int z)) h) : OG p l e R s m args below meth c Z own nm bytes ml ret Q kc ks h cells slots (mkF m pc ls (.int z :: rest)) := by
  intro C T locs X eT N
  have hR : meth.sig.returnType = some .int := C.2.2.2.2.2.1.trans hr
  exact own_end X C.2.2.2.2.2.2.1 (fun q => by rw [hR] at q; cases q) hc hs N eT hq (fun fs hl => retOut X C.1 hR rfl (Or.inl ⟨rfl, Or.inl rfl, z, rfl⟩) (hb C.2.2.2.1 hd) hl)
theorem o_retZ {z w : Int32} (hd : decode bytes pc = .ok (.ireturn, 1)) (hc : cells ≤ kc) (hs : slots ≤ ks) (hr : ret = some .boolean) (hz : z = 0 ∨ z = 1) (hq : Q (some (.int z)) h) : OG p l e R s m args below meth c Z own nm bytes ml ret Q kc ks h cells slots (mkF m pc ls (.int z :: rest)) := by
  intro C T locs X eT N
  have hR : meth.sig.returnType = some .boolean := C.2.2.2.2.2.1.trans hr
  have hn : nar .boolean z = z := by rcases hz with rfl | rfl <;> rfl
  exact own_end X C.2.2.2.2.2.2.1 (fun q => by rw [hR] at q; cases q) hc hs N eT hq (fun fs hl => retN X C.1 hR (Or.inl rfl) (hb C.2.2.2.1 hd) (by rw [hn]; exact hl))
theorem o_retL {z : Int64} (hd : decode bytes pc = .ok (.lreturn, 1)) (hc : cells ≤ kc) (hs : slots ≤ ks) (hr : ret = some .long) (hq : Q (some (.long z)) h) : OG p l e R s m args below meth c Z own nm bytes ml ret Q kc ks h cells slots (mkF m pc ls (.long z :: rest)) := by
  intro C T locs X eT N
  have hR : meth.sig.returnType = some .long := C.2.2.2.2.2.1.trans hr
  exact own_end X C.2.2.2.2.2.2.1 (fun q => by rw [hR] at q; cases q) hc hs N eT hq (fun fs hl => retOut X C.1 hR rfl (Or.inr (Or.inl ⟨rfl, rfl, z, rfl⟩)) (hb C.2.2.2.1 hd) hl)
theorem o_retA {w : Value} {t : FieldType} (hd : decode bytes pc = .ok (.areturn, 1)) (hc : cells ≤ kc) (hs : slots ≤ ks) (hr : ret = some t) (ht : t.isReference = true) (hw : w.isRef = true) (hq : Q (some w) h) : OG p l e R s m args below meth c Z own nm bytes ml ret Q kc ks h cells slots (mkF m pc ls (w :: rest)) := by
  intro C T locs X eT N
  have hR : meth.sig.returnType = some t := C.2.2.2.2.2.1.trans hr
  have hn : narrow t w = w := by cases t <;> first | rfl | (cases ht; done)
  exact own_end X C.2.2.2.2.2.2.1 (fun q => by rw [hR] at q; cases q) hc hs N eT hq (fun fs hl => retOut X C.1 hR hn (Or.inr (Or.inr (Or.inr (Or.inr ⟨rfl, ht, hw⟩)))) (hb C.2.2.2.1 hd) hl)
theorem o_retV (hd : decode bytes pc = .ok (.return_, 1)) (hc : cells ≤ kc) (hs : slots ≤ ks) (hr : ret = none) (hq : Q none h) : OG p l e R s m args below meth c Z own nm bytes ml ret Q kc ks h cells slots (mkF m pc ls []) := by
  intro C T locs X eT N
  exact own_end X C.2.2.2.2.2.2.1 (fun _ => rfl) hc hs N eT hq (fun fs hl => X.returnOut C.1 (C.2.2.2.2.2.1.trans hr) (hb C.2.2.2.1 hd) hl)
/-! calls -/
theorem o_callS {index yl W : Nat} {y : MethodName} {yb : ByteArray} {yr : Option FieldType} {rm : Room} {yQ : Option Value → Heap → Prop} {argsL : List Value} {ps : List FieldType} {yr' : Option FieldType}
    (w1 : (Cond.methodLink own index y).before a0 Z = true) (w2 : (Cond.static y).before a0 Z = true) (w3 : (Cond.initialized y.cls).before a0 Z = true) (w4 : (Cond.code y yb yl yr).before a0 Z = true)
    (hy : y.cls ≠ "java/lang/invoke/MethodHandle" ∧ y.cls ≠ "java/lang/invoke/VarHandle") (K : Ext Z.heap h → OCtr l Z y yb yl yr rm argsL.toArray h yQ) (hd : decode bytes pc = .ok (.invokestatic index, 3))
    (hpd : parseMethodDescriptor y.desc = some ⟨ps, yr'⟩) (hpl : argsL.length = ps.length) (hsz : ls.size = ml) (hst : st = argsL.reverse ++ rest) (hW : (rest.map fun v => v.category).sum ≤ W)
    (hf : rm.frames + 1 ≤ R.frames) (hl : W + (yl + 11) + rm.locals ≤ R.locals) (hcc : cells + rm.cells ≤ R.cells) (hss : slots + rm.slots ≤ R.slots) (hp : pc + 3 = pc')
    (k : ∀ v h', yQ v h' → h.size ≤ h'.size → OG p l e R s m args below meth c Z own nm bytes ml ret Q kc ks h' (cells + rm.cells) (slots + rm.slots) (mkF m pc' ls (v.toList ++ rest))) : OG p l e R s m args below meth c Z own nm bytes ml ret Q kc ks h cells slots (mkF m pc ls st) := by
  intro C T locs X eT N
  have hE : Ext Z.heap h := eT ▸ own_ext X C.2.2.2.2.2.2.2.2 N
  obtain ⟨v, vm₁, ⟨T', L', k', n'⟩, -, X', ⟨L, ⟨hQ, hN⟩, e1, e2, e3⟩, stp⟩ := Jvm.LawKit.callS X C.1 (y := y) C.2.2.1 (mvT C.2.1 w1) (mvT C.2.1 w2) (mvT C.2.1 w3) (mvT C.2.1 w4) hy
    (backOf (W := W) (Q := fun v h2 L => (yQ v h2 ∧ h.size ≤ h2.size) ∧ Fr Z.heap.size L) (K hE []) C.2.1 w4 w3 hf hl) (g := mkF m pc ls st) rfl (hsz.trans C.2.2.2.2.1.symm) (argsL := argsL) (rest := rest) (lenOf hpd hpl) hst (by show 2 * 0 + _ ≤ _; rw [Nat.mul_zero, Nat.zero_add]; exact hW) (hb C.2.2.2.1 hd) (fun _ _ => ⟨rfl, eT, hcc, hss⟩)
  dsimp only [Pt.U, Pt.locs, Pt.cells, Pt.slots] at X' e1 e2 e3 hQ stp
  subst e1 e2 e3 hp
  exact OGoal.via stp (k v T'.heap hQ.1 hQ.2 C T' _ X' rfl (Fr.app N hN))
theorem o_callV {index yl W : Nat} {C0 C1 : String} {y z : MethodName} {yb : ByteArray} {yr : Option FieldType} {rm : Room} {yQ : Option Value → Heap → Prop} {a : Addr} {argsL : List Value} {ps : List FieldType} {yr' : Option FieldType}
    (w1 : (Cond.methodLink own index y).before a0 Z = true) (w2 : (Cond.declares y).before a0 Z = true) (w3 : (Cond.selects C0 y z).before a0 Z = true) (wf : (Cond.selects C1 y y).before a0 Z = true) (w4 : (Cond.instanceMethod z).before a0 Z = true) (w5 : (Cond.code z yb yl yr).before a0 Z = true) (w6 : (Cond.initialized z.cls).before a0 Z = true)
    (hy : y.cls ≠ "java/lang/invoke/MethodHandle" ∧ y.cls ≠ "java/lang/invoke/VarHandle") (E : Exa Z h a C0) (K : Ext Z.heap h → OCtr l Z z yb yl yr rm (.ref a :: argsL).toArray h yQ) (hd : decode bytes pc = .ok (.invokevirtual index, 3))
    (hpd : parseMethodDescriptor y.desc = some ⟨ps, yr'⟩) (hpl : argsL.length = ps.length) (hsz : ls.size = ml) (hst : st = argsL.reverse ++ .ref a :: rest) (hW : (rest.map fun v => v.category).sum ≤ W)
    (hf : rm.frames + 1 ≤ R.frames) (hl : W + (yl + 11) + rm.locals ≤ R.locals) (hcc : cells + rm.cells ≤ R.cells) (hss : slots + rm.slots ≤ R.slots) (hp : pc + 3 = pc')
    (k : ∀ v h', yQ v h' → h.size ≤ h'.size → OG p l e R s m args below meth c Z own nm bytes ml ret Q kc ks h' (cells + rm.cells) (slots + rm.slots) (mkF m pc' ls (v.toList ++ rest))) : OG p l e R s m args below meth c Z own nm bytes ml ret Q kc ks h cells slots (mkF m pc ls st) := by
  intro C T locs X eT N
  have hE : Ext Z.heap h := eT ▸ own_ext X C.2.2.2.2.2.2.2.2 N
  obtain ⟨cq, kq, qa, qb, qc⟩ := isOf C.2.1 eT E
  obtain ⟨v, vm₁, ⟨T', L', k', n'⟩, -, X', ⟨L, ⟨hQ, hN⟩, e1, e2, e3⟩, stp⟩ := X.virtualBack C.1 (y := y) (z := z) C.2.2.1 (mvT C.2.1 w1) (mvT C.2.1 w2) (notFace_of_selects (args := #[]) (mvT C.2.1 wf)) (mvT C.2.1 w3) (mvT C.2.1 w4) hy
    (backOf (W := W) (Q := fun v h2 L => (yQ v h2 ∧ h.size ≤ h2.size) ∧ Fr Z.heap.size L) (K hE []) C.2.1 w5 w6 hf hl) qa qc (g := mkF m pc ls st) rfl (hsz.trans C.2.2.2.2.1.symm) (Steps.refl _) (argsL := argsL) (rest := rest) (lenOf hpd hpl) hst (by show 2 * 0 + _ ≤ _; rw [Nat.mul_zero, Nat.zero_add]; exact hW) (hb C.2.2.2.1 hd) (fun _ _ => ⟨rfl, eT, hcc, hss⟩)
  dsimp only [Pt.U, Pt.locs, Pt.cells, Pt.slots] at X' e1 e2 e3 hQ stp
  subst e1 e2 e3 hp
  exact OGoal.via (fun t kk => stp.trans kk) (k v T'.heap hQ.1 hQ.2 C T' _ X' rfl (Fr.app N hN))
theorem o_callI {index yl W : Nat} {y : MethodName} {yb : ByteArray} {rm : Room} {yQ : Option Value → Heap → Prop} {a : Addr} {argsL : List Value} {ps : List FieldType} {yr' : Option FieldType}
    (hyn : y.name = "<init>") (w1 : (Cond.methodLink own index y).before a0 Z = true) (w4 : (Cond.instanceMethod y).before a0 Z = true) (w5 : (Cond.code y yb yl none).before a0 Z = true) (w6 : (Cond.initialized y.cls).before a0 Z = true)
    (hy : y.cls ≠ "java/lang/invoke/MethodHandle" ∧ y.cls ≠ "java/lang/invoke/VarHandle") (K : Ext Z.heap h → OCtr l Z y yb yl none rm (.ref a :: argsL).toArray h yQ) (hd : decode bytes pc = .ok (.invokespecial index, 3))
    (hpd : parseMethodDescriptor y.desc = some ⟨ps, yr'⟩) (hpl : argsL.length = ps.length) (hsz : ls.size = ml) (hst : st = argsL.reverse ++ .ref a :: rest) (hW : (rest.map fun v => v.category).sum ≤ W)
    (hf : rm.frames + 1 ≤ R.frames) (hl : W + (yl + 11) + rm.locals ≤ R.locals) (hcc : cells + rm.cells ≤ R.cells) (hss : slots + rm.slots ≤ R.slots) (hp : pc + 3 = pc')
    (k : ∀ v h', yQ v h' → h.size ≤ h'.size → OG p l e R s m args below meth c Z own nm bytes ml ret Q kc ks h' (cells + rm.cells) (slots + rm.slots) (mkF m pc' ls (v.toList ++ rest))) : OG p l e R s m args below meth c Z own nm bytes ml ret Q kc ks h cells slots (mkF m pc ls st) := by
  intro C T locs X eT N
  have hE : Ext Z.heap h := eT ▸ own_ext X C.2.2.2.2.2.2.2.2 N
  obtain ⟨v, vm₁, ⟨T', L', k', n'⟩, -, X', ⟨L, ⟨hQ, hN⟩, e1, e2, e3⟩, stp⟩ := X.specialBack C.1 (y := y) hyn C.2.2.1 (mvT C.2.1 w1) (mvT C.2.1 w4) (mvT C.2.1 w5) hy
    (backOf (W := W) (Q := fun v h2 L => (yQ v h2 ∧ h.size ≤ h2.size) ∧ Fr Z.heap.size L) (K hE []) C.2.1 w5 w6 hf hl) (g := mkF m pc ls st) rfl (hsz.trans C.2.2.2.2.1.symm) (Steps.refl _) (a := a) (argsL := argsL) (rest := rest) (lenOf hpd hpl) hst (by show 2 * 0 + _ ≤ _; rw [Nat.mul_zero, Nat.zero_add]; exact hW) (hb C.2.2.2.1 hd) (fun _ _ => ⟨rfl, eT, hcc, hss⟩)
  dsimp only [Pt.U, Pt.locs, Pt.cells, Pt.slots] at X' e1 e2 e3 hQ stp
  subst e1 e2 e3 hp
  exact OGoal.via (fun t kk => stp.trans kk) (k v T'.heap hQ.1 hQ.2 C T' _ X' rfl (Fr.app N hN))
theorem o_initO {index W : Nat} {a : Addr} (w1 : (Cond.methodLink own index Lib.objectInit).before a0 Z = true) (w2 : (Cond.instanceMethod Lib.objectInit).before a0 Z = true) (w3 : (Cond.code Lib.objectInit ⟨#[0xb1]⟩ 1 none).before a0 Z = true)
    (hd : decode bytes pc = .ok (.invokespecial index, 3)) (hsz : ls.size = ml) (hW : (rest.map fun v => v.category).sum ≤ W) (hf : 1 ≤ R.frames) (hl : W + 12 ≤ R.locals) (hp : pc + 3 = pc')
    (k : OG p l e R s m args below meth c Z own nm bytes ml ret Q kc ks h cells slots (mkF m pc' ls rest)) : OG p l e R s m args below meth c Z own nm bytes ml ret Q kc ks h cells slots (mkF m pc ls (.ref a :: rest)) := by
  intro C T locs X eT N
  obtain ⟨T', X', e', stp⟩ := initO X C.1 C.2.1 C.2.2.1 w1 w2 w3 eT (g := mkF m pc ls (.ref a :: rest)) rfl (hsz.trans C.2.2.2.2.1.symm) rfl (hb C.2.2.2.1 hd) hf (W := W) (by show 2 * 0 + _ ≤ _; rw [Nat.mul_zero, Nat.zero_add]; exact hW) hl
  subst hp
  exact OGoal.via stp (k C T' locs X' e' N)
/-! objects -/
theorem o_getF {O n d host : String} {index : Nat} {a : Addr} {v : Value} (w : (Cond.fieldLink own index O n d).before a0 Z = true ∨ (Cond.fieldLinkNest own index O n d host).before a0 Z = true) (F : Fld Z h a O n d v) (hd : decode bytes pc = .ok (.getfield index, 3)) (hp : pc + 3 = pc')
    (k : OG p l e R s m args below meth c Z own nm bytes ml ret Q kc ks h cells slots (mkF m pc' ls (v :: rest))) : OG p l e R s m args below meth c Z own nm bytes ml ret Q kc ks h cells slots (mkF m pc ls (.ref a :: rest)) := by
  intro C T locs X eT N
  obtain ⟨T', X', e', stp⟩ := getF X C.1 C.2.1 C.2.2.1 w Via.refl eT F (g := mkF m pc ls (.ref a :: rest)) rfl rfl (hb C.2.2.2.1 hd)
  subst hp
  exact OGoal.via stp (k C T' locs X' e' N)
theorem o_putF {O n d host C0 : String} {index kk : Nat} {ty : FieldType} {a : Addr} {v old : Value} (w : (Cond.fieldLink own index O n d).before a0 Z = true ∨ (Cond.fieldLinkNest own index O n d host).before a0 Z = true) (F : Fld Z h a O n d old) (E : Exa Z h a C0)
    (L : (Cond.lays C0 O n d).before a0 Z = true ∨ ((Cond.laysFinal C0 O n d).before a0 Z = true ∧ own = O ∧ nm = "<init>")) (wi : (Cond.instantiable C0 kk).before a0 Z = true) (hty : parseFieldDescriptor d = some ty) (hn : narrow ty v = v) (hf : fits ty v = true) (ha : Z.heap.size ≤ a)
    (hd : decode bytes pc = .ok (.putfield index, 3)) (hp : pc + 3 = pc')
    (k : ∀ h', Wr h h' a (Jvm.RoadKit.slotOf Z O n d) v → OG p l e R s m args below meth c Z own nm bytes ml ret Q kc ks h' cells slots (mkF m pc' ls rest)) : OG p l e R s m args below meth c Z own nm bytes ml ret Q kc ks h cells slots (mkF m pc ls (v :: .ref a :: rest)) := by
  intro C T locs X eT N
  obtain ⟨T', h', X', e', W', stp⟩ := putF X C.1 C.2.1 C.2.2.1 w Via.refl eT F E (L.imp id fun q => ⟨q.1, q.2.1, C.2.2.2.2.2.2.2.1.trans q.2.2⟩) wi hty hn hf (g := mkF m pc ls (v :: .ref a :: rest)) rfl rfl (hb C.2.2.2.1 hd)
  subst hp
  exact OGoal.via stp (k h' W' C T' _ X' e' (Fr.snoc X' N ha))
theorem o_newO {C0 : String} {index n : Nat} (w : (Cond.classLink own index C0).before a0 Z = true) (wi : (Cond.instantiable C0 n).before a0 Z = true) (wz : (Cond.initialized C0).before a0 Z = true) (hd : decode bytes pc = .ok (.new index, 3)) (hc : cells + 1 ≤ R.cells) (hl : slots + n ≤ R.slots) (hp : pc + 3 = pc')
    (k : ∀ h' a, a = h.size → Z.heap.size ≤ a → Ext h h' → Exa Z h' a C0 → (∀ {O nm d : String} {ty : FieldType}, Laid Z a0 C0 O nm d → parseFieldDescriptor d = some ty → Fld Z h' a O nm d (defaultValue ty)) → OG p l e R s m args below meth c Z own nm bytes ml ret Q kc ks h' (cells + 1) (slots + n) (mkF m pc' ls (.ref a :: st))) : OG p l e R s m args below meth c Z own nm bytes ml ret Q kc ks h cells slots (mkF m pc ls st) := by
  intro C T locs X eT N
  have hE : Ext Z.heap h := eT ▸ own_ext X C.2.2.2.2.2.2.2.2 N
  obtain ⟨T', h', X', e', E', A', D', -, stp⟩ := newO X C.1 C.2.1 C.2.2.1 w wi wz eT (g := mkF m pc ls st) rfl (hb C.2.2.2.1 hd) hc hl
  subst hp
  exact OGoal.via stp (k h' h.size rfl hE.1 E' A' D' C T' _ X' e' N)
theorem own_word {L : List Jvm.Cond} {dc : Jvm.Cond} (hw : ∀ d ∈ L, d.before a0 Z = true) (i : Nat) (q : L[i]? = some dc) : dc.before a0 Z = true := hw _ (List.mem_of_getElem? q)
end OwnKit
def own_after (b : Int32) (M : Int64) : Int64 := if b = 0 then (if 0 < XT.cmpL (2 * M) 5000 then 5000 else 2 * M) else 100
def own_run (b k : Int32) : Int32 := if b = 0 then k + 1 else 0
def own_ms (n : Nat) : Int64 := if 6 ≤ n then 5000 else (100 : Int64) <<< ((Int32.ofNat n).toInt64 &&& 63)
theorem own_st : ∀ n < 8, own_after 0 (own_ms n) = own_ms (n + 1) ∧ own_run 0 (Int32.ofNat n) = Int32.ofNat (n + 1) := by decide
theorem own_z : own_after 1 5 = own_ms 0 ∧ own_run 1 5 = Int32.ofNat 0 := by decide
def OInv (j : Nat) (M : Int64) (k : Int32) : Prop := ∃ n, n ≤ j ∧ M = own_ms n ∧ k = Int32.ofNat n
theorem own_step {j : Nat} {M : Int64} {k b : Int32} (hj : j < 8) (hb : b = 0 ∨ b = 1) (q : OInv j M k) : OInv (j + 1) (own_after b M) (own_run b k) := by
  obtain ⟨n, h1, rfl, rfl⟩ := q
  rcases hb with rfl | rfl
  · exact ⟨n + 1, by omega, (own_st n (by omega)).1, (own_st n (by omega)).2⟩
  · exact ⟨0, by omega, rfl, rfl⟩
theorem own_fin : ∀ n < 8, (if Int32.ofNat n < 6 then XT.cmpL (own_ms n) ((100 : Int64) <<< ((Int32.ofNat n).toInt64 &&& 63)) else XT.cmpL (own_ms n) 5000) = 0 := by decide
theorem own_end1 {M : Int64} {k : Int32} (q : OInv 7 M k) (r : k < 6) : XT.cmpL M ((100 : Int64) <<< (k.toInt64 &&& 63)) = 0 := by
  obtain ⟨n, h1, rfl, rfl⟩ := q
  have := own_fin n (by omega)
  rwa [if_pos r] at this
theorem own_end2 {M : Int64} {k : Int32} (q : OInv 7 M k) (r : ¬ k < 6) : XT.cmpL M 5000 = 0 := by
  obtain ⟨n, h1, rfl, rfl⟩ := q
  have := own_fin n (by omega)
  rwa [if_neg r] at this
theorem own_i0 : OInv 0 100 0 := ⟨0, by decide, rfl, rfl⟩

theorem b5_0_3 : oBlk jdk_29_method_70_code 0 [.lload_n 0, .lload_n 2, .lcmp] = some 3 := by decide +kernel
theorem d5_3 : decode jdk_29_method_70_code 3 = .ok (.ifCond .gt 7, 3) := by decide +kernel
theorem b5_10_11 : oBlk jdk_29_method_70_code 10 [.lload_n 2] = some 11 := by decide +kernel
theorem d5_11 : decode jdk_29_method_70_code 11 = .ok (.lreturn, 1) := by decide +kernel
theorem b5_6_7 : oBlk jdk_29_method_70_code 6 [.lload_n 0] = some 7 := by decide +kernel
theorem d5_7 : decode jdk_29_method_70_code 7 = .ok (.goto 4, 3) := by decide +kernel
theorem b6_0_1 : oBlk method_2_code 0 [.iload_n 0] = some 1 := by decide +kernel
theorem d6_1 : decode method_2_code 1 = .ok (.ifCond .eq 5, 3) := by decide +kernel
theorem b6_6_9 : oBlk method_2_code 6 [.iload_n 1, .iconst 1, .iadd] = some 9 := by decide +kernel
theorem d6_9 : decode method_2_code 9 = .ok (.ireturn, 1) := by decide +kernel
theorem b6_4_5 : oBlk method_2_code 4 [.iconst 0] = some 5 := by decide +kernel
theorem d6_5 : decode method_2_code 5 = .ok (.ireturn, 1) := by decide +kernel
theorem pn_0 : plainName "com/example/vouchsafe/vouchsafe/RetryPauseAfterPinLaw" = true := by first | (simp [plainName, overriddenIn]; done) | decide +kernel
theorem b1_0_1 : oBlk prog_14_method_1_code 0 [.aload_n 0] = some 1 := by decide +kernel
theorem d1_1 : decode prog_14_method_1_code 1 = .ok (.invokespecial 1, 3) := by decide +kernel
theorem b1_4_5 : oBlk prog_14_method_1_code 4 [.aload_n 0] = some 5 := by decide +kernel
theorem d1_5 : decode prog_14_method_1_code 5 = .ok (.ldc2_w 9, 3) := by decide +kernel
theorem d1_8 : decode prog_14_method_1_code 8 = .ok (.putfield 11, 3) := by decide +kernel
theorem d1_11 : decode prog_14_method_1_code 11 = .ok (.return_, 1) := by decide +kernel
theorem pn_1 : plainName "com/example/vouchsafe/vouchsafe/RetryPause" = true := by first | (simp [plainName, overriddenIn]; done) | decide +kernel
theorem b3_0_1 : oBlk prog_14_method_2_code 0 [.aload_n 0] = some 1 := by decide +kernel
theorem d3_1 : decode prog_14_method_2_code 1 = .ok (.getfield 11, 3) := by decide +kernel
theorem d3_4 : decode prog_14_method_2_code 4 = .ok (.lreturn, 1) := by decide +kernel
theorem b4_0_2 : oBlk prog_14_method_3_code 0 [.aload_n 0, .iload_n 1] = some 2 := by decide +kernel
theorem d4_2 : decode prog_14_method_3_code 2 = .ok (.ifCond .eq 9, 3) := by decide +kernel
theorem d4_11 : decode prog_14_method_3_code 11 = .ok (.ldc2_w 15, 3) := by decide +kernel
theorem b4_14_15 : oBlk prog_14_method_3_code 14 [.aload_n 0] = some 15 := by decide +kernel
theorem d4_15 : decode prog_14_method_3_code 15 = .ok (.getfield 11, 3) := by decide +kernel
theorem b4_18_19 : oBlk prog_14_method_3_code 18 [.lmul] = some 19 := by decide +kernel
theorem d4_19 : decode prog_14_method_3_code 19 = .ok (.ldc2_w 17, 3) := by decide +kernel
theorem d4_22 : decode prog_14_method_3_code 22 = .ok (.invokestatic 19, 3) := by decide +kernel
theorem pd_0 : parseMethodDescriptor "(JJ)J" = some ⟨[.long, .long], some .long⟩ := by decide +kernel
theorem d4_25 : decode prog_14_method_3_code 25 = .ok (.putfield 11, 3) := by decide +kernel
theorem d4_28 : decode prog_14_method_3_code 28 = .ok (.return_, 1) := by decide +kernel
theorem d4_5 : decode prog_14_method_3_code 5 = .ok (.ldc2_w 9, 3) := by decide +kernel
theorem d4_8 : decode prog_14_method_3_code 8 = .ok (.goto 17, 3) := by decide +kernel
theorem b0_0_3 : oBlk code 0 [.iload_n 0, .iconst 1, .iand] = some 3 := by decide +kernel
theorem d0_3 : decode code 3 = .ok (.ifCond .eq 7, 3) := by decide +kernel
theorem b0_11_12 : oBlk code 11 [.istore_n 1] = some 12 := by decide +kernel
theorem b0_12_17 : oBlk code 12 [.iload_n 0, .iconst 1, .ishr, .iconst 1, .iand] = some 17 := by decide +kernel
theorem d0_17 : decode code 17 = .ok (.ifCond .eq 7, 3) := by decide +kernel
theorem b0_25_26 : oBlk code 25 [.istore_n 2] = some 26 := by decide +kernel
theorem b0_26_31 : oBlk code 26 [.iload_n 0, .iconst 2, .ishr, .iconst 1, .iand] = some 31 := by decide +kernel
theorem d0_31 : decode code 31 = .ok (.ifCond .eq 7, 3) := by decide +kernel
theorem b0_39_40 : oBlk code 39 [.istore_n 3] = some 40 := by decide +kernel
theorem b0_40_45 : oBlk code 40 [.iload_n 0, .iconst 3, .ishr, .iconst 1, .iand] = some 45 := by decide +kernel
theorem d0_45 : decode code 45 = .ok (.ifCond .eq 7, 3) := by decide +kernel
theorem b0_53_55 : oBlk code 53 [.istore 4] = some 55 := by decide +kernel
theorem b0_55_60 : oBlk code 55 [.iload_n 0, .iconst 4, .ishr, .iconst 1, .iand] = some 60 := by decide +kernel
theorem d0_60 : decode code 60 = .ok (.ifCond .eq 7, 3) := by decide +kernel
theorem b0_68_70 : oBlk code 68 [.istore 5] = some 70 := by decide +kernel
theorem b0_70_75 : oBlk code 70 [.iload_n 0, .iconst 5, .ishr, .iconst 1, .iand] = some 75 := by decide +kernel
theorem d0_75 : decode code 75 = .ok (.ifCond .eq 7, 3) := by decide +kernel
theorem b0_83_85 : oBlk code 83 [.istore 6] = some 85 := by decide +kernel
theorem b0_85_91 : oBlk code 85 [.iload_n 0, .bipush 6, .ishr, .iconst 1, .iand] = some 91 := by decide +kernel
theorem d0_91 : decode code 91 = .ok (.ifCond .eq 7, 3) := by decide +kernel
theorem b0_99_101 : oBlk code 99 [.istore 7] = some 101 := by decide +kernel
theorem d0_101 : decode code 101 = .ok (.new 7, 3) := by decide +kernel
theorem b0_104_105 : oBlk code 104 [.dup] = some 105 := by decide +kernel
theorem d0_105 : decode code 105 = .ok (.invokespecial 9, 3) := by decide +kernel
theorem pd_1 : parseMethodDescriptor "()V" = some ⟨[], none⟩ := by decide +kernel
theorem b0_108_110 : oBlk code 108 [.astore 8] = some 110 := by decide +kernel
theorem b0_110_112 : oBlk code 110 [.aload 8] = some 112 := by decide +kernel
theorem d0_112 : decode code 112 = .ok (.invokevirtual 10, 3) := by decide +kernel
theorem pd_2 : parseMethodDescriptor "()J" = some ⟨[], some .long⟩ := by decide +kernel
theorem d0_115 : decode code 115 = .ok (.ldc2_w 14, 3) := by decide +kernel
theorem b0_118_119 : oBlk code 118 [.lcmp] = some 119 := by decide +kernel
theorem d0_119 : decode code 119 = .ok (.ifCond .ne 7, 3) := by decide +kernel
theorem b0_122_123 : oBlk code 122 [.iconst 1] = some 123 := by decide +kernel
theorem d0_123 : decode code 123 = .ok (.goto 4, 3) := by decide +kernel
theorem b0_127_129 : oBlk code 127 [.istore 9] = some 129 := by decide +kernel
theorem b0_129_132 : oBlk code 129 [.aload 8, .iload_n 1] = some 132 := by decide +kernel
theorem d0_132 : decode code 132 = .ok (.invokevirtual 16, 3) := by decide +kernel
theorem pd_3 : parseMethodDescriptor "(Z)V" = some ⟨[.boolean], none⟩ := by decide +kernel
theorem b0_135_138 : oBlk code 135 [.aload 8, .iload_n 2] = some 138 := by decide +kernel
theorem d0_138 : decode code 138 = .ok (.invokevirtual 16, 3) := by decide +kernel
theorem b0_141_144 : oBlk code 141 [.aload 8, .iload_n 3] = some 144 := by decide +kernel
theorem d0_144 : decode code 144 = .ok (.invokevirtual 16, 3) := by decide +kernel
theorem b0_147_151 : oBlk code 147 [.aload 8, .iload 4] = some 151 := by decide +kernel
theorem d0_151 : decode code 151 = .ok (.invokevirtual 16, 3) := by decide +kernel
theorem b0_154_158 : oBlk code 154 [.aload 8, .iload 5] = some 158 := by decide +kernel
theorem d0_158 : decode code 158 = .ok (.invokevirtual 16, 3) := by decide +kernel
theorem b0_161_165 : oBlk code 161 [.aload 8, .iload 6] = some 165 := by decide +kernel
theorem d0_165 : decode code 165 = .ok (.invokevirtual 16, 3) := by decide +kernel
theorem b0_168_172 : oBlk code 168 [.aload 8, .iload 7] = some 172 := by decide +kernel
theorem d0_172 : decode code 172 = .ok (.invokevirtual 16, 3) := by decide +kernel
theorem b0_175_178 : oBlk code 175 [.iconst 0, .istore 10] = some 178 := by decide +kernel
theorem b0_178_181 : oBlk code 178 [.iload_n 1, .iload 10] = some 181 := by decide +kernel
theorem d0_181 : decode code 181 = .ok (.invokestatic 20, 3) := by decide +kernel
theorem pd_4 : parseMethodDescriptor "(ZI)I" = some ⟨[.boolean, .int], some .int⟩ := by decide +kernel
theorem b0_184_186 : oBlk code 184 [.istore 10] = some 186 := by decide +kernel
theorem b0_186_189 : oBlk code 186 [.iload_n 2, .iload 10] = some 189 := by decide +kernel
theorem d0_189 : decode code 189 = .ok (.invokestatic 20, 3) := by decide +kernel
theorem b0_192_194 : oBlk code 192 [.istore 10] = some 194 := by decide +kernel
theorem b0_194_197 : oBlk code 194 [.iload_n 3, .iload 10] = some 197 := by decide +kernel
theorem d0_197 : decode code 197 = .ok (.invokestatic 20, 3) := by decide +kernel
theorem b0_200_202 : oBlk code 200 [.istore 10] = some 202 := by decide +kernel
theorem b0_202_206 : oBlk code 202 [.iload 4, .iload 10] = some 206 := by decide +kernel
theorem d0_206 : decode code 206 = .ok (.invokestatic 20, 3) := by decide +kernel
theorem b0_209_211 : oBlk code 209 [.istore 10] = some 211 := by decide +kernel
theorem b0_211_215 : oBlk code 211 [.iload 5, .iload 10] = some 215 := by decide +kernel
theorem d0_215 : decode code 215 = .ok (.invokestatic 20, 3) := by decide +kernel
theorem b0_218_220 : oBlk code 218 [.istore 10] = some 220 := by decide +kernel
theorem b0_220_224 : oBlk code 220 [.iload 6, .iload 10] = some 224 := by decide +kernel
theorem d0_224 : decode code 224 = .ok (.invokestatic 20, 3) := by decide +kernel
theorem b0_227_229 : oBlk code 227 [.istore 10] = some 229 := by decide +kernel
theorem b0_229_233 : oBlk code 229 [.iload 7, .iload 10] = some 233 := by decide +kernel
theorem d0_233 : decode code 233 = .ok (.invokestatic 20, 3) := by decide +kernel
theorem b0_236_238 : oBlk code 236 [.istore 10] = some 238 := by decide +kernel
theorem b0_238_242 : oBlk code 238 [.iload 10, .bipush 6] = some 242 := by decide +kernel
theorem d0_242 : decode code 242 = .ok (.if_icmp .lt 9, 3) := by decide +kernel
theorem d0_251 : decode code 251 = .ok (.ldc2_w 14, 3) := by decide +kernel
theorem b0_254_259 : oBlk code 254 [.iload 10, .lshl, .lstore 11] = some 259 := by decide +kernel
theorem b0_259_261 : oBlk code 259 [.iload 9] = some 261 := by decide +kernel
theorem d0_261 : decode code 261 = .ok (.ifCond .eq 18, 3) := by decide +kernel
theorem b0_264_266 : oBlk code 264 [.aload 8] = some 266 := by decide +kernel
theorem d0_266 : decode code 266 = .ok (.invokevirtual 10, 3) := by decide +kernel
theorem b0_269_272 : oBlk code 269 [.lload 11, .lcmp] = some 272 := by decide +kernel
theorem d0_272 : decode code 272 = .ok (.ifCond .ne 7, 3) := by decide +kernel
theorem b0_275_276 : oBlk code 275 [.iconst 1] = some 276 := by decide +kernel
theorem d0_276 : decode code 276 = .ok (.goto 4, 3) := by decide +kernel
theorem d0_280 : decode code 280 = .ok (.ireturn, 1) := by decide +kernel
theorem d0_245 : decode code 245 = .ok (.ldc2_w 26, 3) := by decide +kernel
theorem d0_248 : decode code 248 = .ok (.goto 9, 3) := by decide +kernel
theorem b0_257_259 : oBlk code 257 [.lstore 11] = some 259 := by decide +kernel
theorem b0_98_99 : oBlk code 98 [.iconst 0] = some 99 := by decide +kernel
theorem b0_94_95 : oBlk code 94 [.iconst 1] = some 95 := by decide +kernel
theorem d0_95 : decode code 95 = .ok (.goto 4, 3) := by decide +kernel
theorem b0_82_83 : oBlk code 82 [.iconst 0] = some 83 := by decide +kernel
theorem b0_78_79 : oBlk code 78 [.iconst 1] = some 79 := by decide +kernel
theorem d0_79 : decode code 79 = .ok (.goto 4, 3) := by decide +kernel
theorem b0_67_68 : oBlk code 67 [.iconst 0] = some 68 := by decide +kernel
theorem b0_63_64 : oBlk code 63 [.iconst 1] = some 64 := by decide +kernel
theorem d0_64 : decode code 64 = .ok (.goto 4, 3) := by decide +kernel
theorem b0_52_53 : oBlk code 52 [.iconst 0] = some 53 := by decide +kernel
theorem b0_48_49 : oBlk code 48 [.iconst 1] = some 49 := by decide +kernel
theorem d0_49 : decode code 49 = .ok (.goto 4, 3) := by decide +kernel
theorem b0_38_39 : oBlk code 38 [.iconst 0] = some 39 := by decide +kernel
theorem b0_34_35 : oBlk code 34 [.iconst 1] = some 35 := by decide +kernel
theorem d0_35 : decode code 35 = .ok (.goto 4, 3) := by decide +kernel
theorem b0_24_25 : oBlk code 24 [.iconst 0] = some 25 := by decide +kernel
theorem b0_20_21 : oBlk code 20 [.iconst 1] = some 21 := by decide +kernel
theorem d0_21 : decode code 21 = .ok (.goto 4, 3) := by decide +kernel
theorem b0_10_11 : oBlk code 10 [.iconst 0] = some 11 := by decide +kernel
theorem b0_6_7 : oBlk code 6 [.iconst 1] = some 7 := by decide +kernel
theorem d0_7 : decode code 7 = .ok (.goto 4, 3) := by decide +kernel
set_option maxRecDepth 65536 in
set_option maxHeartbeats 40000000 in
theorem rm_min (l : Launch) (Z : State) (a0 : Array Value) (hw : ∀ d ∈ tables_1, d.before a0 Z = true) (q1 q2 : Int64) (h0 : Heap) (hE0 : Ext Z.heap h0)  :
    OCtr l Z (⟨"java/lang/Math", "min", "(JJ)J"⟩ : MethodName) jdk_29_method_70_code 4 (some .long) ({ frames := 0, cells := 0, slots := 0, locals := 0 } : Room) #[(.long q1), (.long q2)] h0 (fun v h => v = some (.long (if 0 < XT.cmpL q1 q2 then q2 else q1)) ∧ h0 = h) := by
  refine o_body (ls0 := #[.val (.long q1), .second, .val (.long q2), .second]) (Jvm.Free.JP.mathPlain rfl (by decide +kernel)) hE0 (fun m => by first | (simp [entryFrame, mkF, argsToLocals, Value.category]; done) | rfl) ?_
  intro pG eG sG mG bG meG cG
  refine o_blk (pc' := 3) (st' := [(.int (XT.cmpL q1 q2))]) (ls' := #[.val (.long q1), .second, .val (.long q2), .second]) b5_0_3 rfl ?_
  refine o_if (pc' := 10) (pc'' := 6) d5_3 (by decide) (by decide) rfl (fun (hc3_1 : 0 < (XT.cmpL q1 q2)) => ?_) (fun (hc3_1 : ¬ 0 < (XT.cmpL q1 q2)) => ?_)
  ·
    refine o_blk (pc' := 11) (st' := [(.long q2)]) (ls' := #[.val (.long q1), .second, .val (.long q2), .second]) b5_10_11 rfl ?_
    exact o_retL d5_11 (by decide) (by decide) rfl ⟨by simp [*], rfl⟩
  ·
    refine o_blk (pc' := 7) (st' := [(.long q1)]) (ls' := #[.val (.long q1), .second, .val (.long q2), .second]) b5_6_7 rfl ?_
    refine o_goto (pc' := 11) d5_7 (by decide) (by decide) ?_
    exact o_retL d5_11 (by decide) (by decide) rfl ⟨by simp [*], rfl⟩
set_option maxRecDepth 65536 in
set_option maxHeartbeats 40000000 in
theorem rm_run (l : Launch) (Z : State) (a0 : Array Value) (hw : ∀ d ∈ tables_1, d.before a0 Z = true) (b k : Int32) (h0 : Heap) (hE0 : Ext Z.heap h0)  :
    OCtr l Z (⟨"com/example/vouchsafe/vouchsafe/RetryPauseAfterPinLaw", "run", "(ZI)I"⟩ : MethodName) method_2_code 2 (some .int) ({ frames := 0, cells := 0, slots := 0, locals := 0 } : Room) #[(.int b), (.int k)] h0 (fun v h => v = some (.int (own_run b k)) ∧ h0 = h) := by
  refine o_body (ls0 := #[.val (.int b), .val (.int k)]) (plainFor_of_name pn_0) hE0 (fun m => by first | (simp [entryFrame, mkF, argsToLocals, Value.category]; done) | rfl) ?_
  intro pG eG sG mG bG meG cG
  refine o_blk (pc' := 1) (st' := [(.int b)]) (ls' := #[.val (.int b), .val (.int k)]) b6_0_1 rfl ?_
  refine o_if (pc' := 6) (pc'' := 4) d6_1 (by decide) (by decide) rfl (fun (hc1_1 : b = 0) => ?_) (fun (hc1_1 : ¬ b = 0) => ?_)
  ·
    refine o_blk (pc' := 9) (st' := [(.int (k + (1 : Int32)))]) (ls' := #[.val (.int b), .val (.int k)]) b6_6_9 rfl ?_
    exact o_retI d6_9 (by decide) (by decide) rfl ⟨by simp [own_run, *], rfl⟩
  ·
    refine o_blk (pc' := 5) (st' := [(.int (0 : Int32))]) (ls' := #[.val (.int b), .val (.int k)]) b6_4_5 rfl ?_
    exact o_retI d6_5 (by decide) (by decide) rfl ⟨by simp [own_run, *], rfl⟩
set_option maxRecDepth 65536 in
set_option maxHeartbeats 40000000 in
theorem rm_init (l : Launch) (Z : State) (a0 : Array Value) (hw : ∀ d ∈ tables_1, d.before a0 Z = true)  (h0 : Heap) (hE0 : Ext Z.heap h0) (a : Addr) (na : Z.heap.size ≤ a) (M : Int64) (E : Exa Z h0 a "com/example/vouchsafe/vouchsafe/RetryPause") (F : Fld Z h0 a "com/example/vouchsafe/vouchsafe/RetryPause" "millis" "J" (.long M)) :
    OCtr l Z (⟨"com/example/vouchsafe/vouchsafe/RetryPause", "<init>", "()V"⟩ : MethodName) prog_14_method_1_code 1 none ({ frames := 1, cells := 0, slots := 0, locals := 12 } : Room) #[(.ref a)] h0 (fun v h => v = none ∧ Exa Z h a "com/example/vouchsafe/vouchsafe/RetryPause" ∧ Fld Z h a "com/example/vouchsafe/vouchsafe/RetryPause" "millis" "J" (.long 100)) := by
  refine o_body (ls0 := #[.val (.ref a)]) (plainFor_of_name pn_1) hE0 (fun m => by first | (simp [entryFrame, mkF, argsToLocals, Value.category]; done) | rfl) ?_
  intro pG eG sG mG bG meG cG
  refine o_blk (pc' := 1) (st' := [(.ref a)]) (ls' := #[.val (.ref a)]) b1_0_1 rfl ?_
  refine o_initO (W := 0) (pc' := 4) (own_word hw 6 rfl) (own_word hw 7 rfl) (own_word hw 8 rfl) d1_1 rfl (Nat.le_of_eq rfl) (by decide) (by decide) rfl ?_
  refine o_blk (pc' := 5) (st' := [(.ref a)]) (ls' := #[.val (.ref a)]) b1_4_5 rfl ?_
  refine o_ldc2 (pc' := 8) (v := 100) (own_word hw 9 rfl) d1_5 rfl ?_
  refine o_putF (host := "") (ty := .long) (pc' := 11) (Or.inl (own_word hw 10 rfl)) F E (Or.inl (own_word hw 11 rfl)) (own_word hw 1 rfl) (by decide) rfl rfl na d1_8 rfl ?_
  intro h1 W1
  have F2 := E.wr W1
  have F3 := F.same W1
  exact o_retV d1_11 (by decide) (by decide) rfl ⟨rfl, F2, F3⟩
set_option maxRecDepth 65536 in
set_option maxHeartbeats 40000000 in
theorem rm_millis (l : Launch) (Z : State) (a0 : Array Value) (hw : ∀ d ∈ tables_1, d.before a0 Z = true)  (h0 : Heap) (hE0 : Ext Z.heap h0) (a : Addr) (na : Z.heap.size ≤ a) (M : Int64) (E : Exa Z h0 a "com/example/vouchsafe/vouchsafe/RetryPause") (F : Fld Z h0 a "com/example/vouchsafe/vouchsafe/RetryPause" "millis" "J" (.long M)) :
    OCtr l Z (⟨"com/example/vouchsafe/vouchsafe/RetryPause", "millis", "()J"⟩ : MethodName) prog_14_method_2_code 1 (some .long) ({ frames := 0, cells := 0, slots := 0, locals := 0 } : Room) #[(.ref a)] h0 (fun v h => v = some (.long M) ∧ h0 = h) := by
  refine o_body (ls0 := #[.val (.ref a)]) (plainFor_of_name pn_1) hE0 (fun m => by first | (simp [entryFrame, mkF, argsToLocals, Value.category]; done) | rfl) ?_
  intro pG eG sG mG bG meG cG
  refine o_blk (pc' := 1) (st' := [(.ref a)]) (ls' := #[.val (.ref a)]) b3_0_1 rfl ?_
  refine o_getF (host := "") (pc' := 4) (v := (.long M)) (Or.inl (own_word hw 10 rfl)) F d3_1 rfl ?_
  exact o_retL d3_4 (by decide) (by decide) rfl ⟨rfl, rfl⟩
set_option maxRecDepth 65536 in
set_option maxHeartbeats 40000000 in
theorem rm_after (l : Launch) (Z : State) (a0 : Array Value) (hw : ∀ d ∈ tables_1, d.before a0 Z = true) (b : Int32) (h0 : Heap) (hE0 : Ext Z.heap h0) (a : Addr) (na : Z.heap.size ≤ a) (M : Int64) (E : Exa Z h0 a "com/example/vouchsafe/vouchsafe/RetryPause") (F : Fld Z h0 a "com/example/vouchsafe/vouchsafe/RetryPause" "millis" "J" (.long M)) :
    OCtr l Z (⟨"com/example/vouchsafe/vouchsafe/RetryPause", "after", "(Z)V"⟩ : MethodName) prog_14_method_3_code 2 none ({ frames := 1, cells := 0, slots := 0, locals := 16 } : Room) #[(.ref a), (.int b)] h0 (fun v h => v = none ∧ Exa Z h a "com/example/vouchsafe/vouchsafe/RetryPause" ∧ Fld Z h a "com/example/vouchsafe/vouchsafe/RetryPause" "millis" "J" (.long (own_after b M))) := by
  refine o_body (ls0 := #[.val (.ref a), .val (.int b)]) (plainFor_of_name pn_1) hE0 (fun m => by first | (simp [entryFrame, mkF, argsToLocals, Value.category]; done) | rfl) ?_
  intro pG eG sG mG bG meG cG
  refine o_blk (pc' := 2) (st' := [(.int b), (.ref a)]) (ls' := #[.val (.ref a), .val (.int b)]) b4_0_2 rfl ?_
  refine o_if (pc' := 11) (pc'' := 5) d4_2 (by decide) (by decide) rfl (fun (hc2_1 : b = 0) => ?_) (fun (hc2_1 : ¬ b = 0) => ?_)
  ·
    refine o_ldc2 (pc' := 14) (v := 2) (own_word hw 23 rfl) d4_11 rfl ?_
    refine o_blk (pc' := 15) (st' := [(.ref a), (.long (2 : Int64)), (.ref a)]) (ls' := #[.val (.ref a), .val (.int b)]) b4_14_15 rfl ?_
    refine o_getF (host := "") (pc' := 18) (v := (.long M)) (Or.inl (own_word hw 10 rfl)) F d4_15 rfl ?_
    refine o_blk (pc' := 19) (st' := [(.long ((2 : Int64) * M)), (.ref a)]) (ls' := #[.val (.ref a), .val (.int b)]) b4_18_19 rfl ?_
    refine o_ldc2 (pc' := 22) (v := 5000) (own_word hw 24 rfl) d4_19 rfl ?_
    refine o_callS (W := 1) (argsL := [(.long ((2 : Int64) * M)), (.long (5000 : Int64))]) (rest := [(.ref a)]) (pc' := 25) (own_word hw 25 rfl) (own_word hw 26 rfl) (own_word hw 27 rfl) (own_word hw 28 rfl) (by decide) (fun hE => rm_min l Z a0 hw ((2 : Int64) * M) (5000 : Int64) h0 hE) d4_22 pd_0 rfl rfl rfl (Nat.le_of_eq rfl) (by decide) (by decide) (by decide) (by decide) rfl ?_
    rintro _ _ ⟨rfl, rfl⟩ hs2
    refine o_putF (host := "") (ty := .long) (pc' := 28) (Or.inl (own_word hw 10 rfl)) F E (Or.inl (own_word hw 11 rfl)) (own_word hw 1 rfl) (by decide) rfl rfl na d4_25 rfl ?_
    intro h3 W3
    have F4 := E.wr W3
    have F5 := F.same W3
    exact o_retV d4_28 (by decide) (by decide) rfl ⟨rfl, F4, by have q := F5; simpa [own_after, hc2_1] using q⟩
  ·
    refine o_ldc2 (pc' := 8) (v := 100) (own_word hw 9 rfl) d4_5 rfl ?_
    refine o_goto (pc' := 25) d4_8 (by decide) (by decide) ?_
    refine o_putF (host := "") (ty := .long) (pc' := 28) (Or.inl (own_word hw 10 rfl)) F E (Or.inl (own_word hw 11 rfl)) (own_word hw 1 rfl) (by decide) rfl rfl na d4_25 rfl ?_
    intro h6 W6
    have F7 := E.wr W6
    have F8 := F.same W6
    exact o_retV d4_28 (by decide) (by decide) rfl ⟨rfl, F7, by have q := F8; simpa [own_after, hc2_1] using q⟩
set_option maxRecDepth 65536 in
set_option maxHeartbeats 40000000 in
theorem rm_law (l : Launch) (Z : State) (a0 : Array Value) (hw : ∀ d ∈ tables_1, d.before a0 Z = true) (p1 : Int32) (h0 : Heap) (hE0 : Ext Z.heap h0)  :
    OCtr l Z x code maxLocals ret room_1 #[(.int p1)] h0 (fun v h => v = some (.int 1)) := by
  refine o_body (ls0 := #[.val (.int p1), .unset, .unset, .unset, .unset, .unset, .unset, .unset, .unset, .unset, .unset, .unset, .unset]) (plainFor_of_name pn_0) hE0 (fun m => by first | (simp [entryFrame, mkF, argsToLocals, Value.category, maxLocals]; done) | rfl) ?_
  intro pG eG sG mG bG meG cG
  refine o_blk (pc' := 3) (st' := [(.int (p1 &&& (1 : Int32)))]) (ls' := #[.val (.int p1), .unset, .unset, .unset, .unset, .unset, .unset, .unset, .unset, .unset, .unset, .unset, .unset]) b0_0_3 rfl ?_
  have J11_2 : ∀ (z0 : Int32) (hz0 : z0 = 0 ∨ z0 = 1), OG pG l eG room_1 sG mG #[(.int p1)] bG meG cG Z x.cls x.name code maxLocals ret (fun v h => v = some (.int 1)) room_1.cells room_1.slots h0 0 0 (mkF mG 11 #[.val (.int p1), .unset, .unset, .unset, .unset, .unset, .unset, .unset, .unset, .unset, .unset, .unset, .unset] [(.int z0)]) := by
    intro z0 hz0
    refine o_blk (pc' := 12) (st' := []) (ls' := #[.val (.int p1), .val (.int z0), .unset, .unset, .unset, .unset, .unset, .unset, .unset, .unset, .unset, .unset, .unset]) b0_11_12 rfl ?_
    refine o_blk (pc' := 17) (st' := [(.int ((p1 >>> ((1 : Int32) &&& 31)) &&& (1 : Int32)))]) (ls' := #[.val (.int p1), .val (.int z0), .unset, .unset, .unset, .unset, .unset, .unset, .unset, .unset, .unset, .unset, .unset]) b0_12_17 rfl ?_
    have J25_4 : ∀ (z1 : Int32) (hz1 : z1 = 0 ∨ z1 = 1), OG pG l eG room_1 sG mG #[(.int p1)] bG meG cG Z x.cls x.name code maxLocals ret (fun v h => v = some (.int 1)) room_1.cells room_1.slots h0 0 0 (mkF mG 25 #[.val (.int p1), .val (.int z0), .unset, .unset, .unset, .unset, .unset, .unset, .unset, .unset, .unset, .unset, .unset] [(.int z1)]) := by
      intro z1 hz1
      refine o_blk (pc' := 26) (st' := []) (ls' := #[.val (.int p1), .val (.int z0), .val (.int z1), .unset, .unset, .unset, .unset, .unset, .unset, .unset, .unset, .unset, .unset]) b0_25_26 rfl ?_
      refine o_blk (pc' := 31) (st' := [(.int ((p1 >>> ((2 : Int32) &&& 31)) &&& (1 : Int32)))]) (ls' := #[.val (.int p1), .val (.int z0), .val (.int z1), .unset, .unset, .unset, .unset, .unset, .unset, .unset, .unset, .unset, .unset]) b0_26_31 rfl ?_
      have J39_6 : ∀ (z2 : Int32) (hz2 : z2 = 0 ∨ z2 = 1), OG pG l eG room_1 sG mG #[(.int p1)] bG meG cG Z x.cls x.name code maxLocals ret (fun v h => v = some (.int 1)) room_1.cells room_1.slots h0 0 0 (mkF mG 39 #[.val (.int p1), .val (.int z0), .val (.int z1), .unset, .unset, .unset, .unset, .unset, .unset, .unset, .unset, .unset, .unset] [(.int z2)]) := by
        intro z2 hz2
        refine o_blk (pc' := 40) (st' := []) (ls' := #[.val (.int p1), .val (.int z0), .val (.int z1), .val (.int z2), .unset, .unset, .unset, .unset, .unset, .unset, .unset, .unset, .unset]) b0_39_40 rfl ?_
        refine o_blk (pc' := 45) (st' := [(.int ((p1 >>> ((3 : Int32) &&& 31)) &&& (1 : Int32)))]) (ls' := #[.val (.int p1), .val (.int z0), .val (.int z1), .val (.int z2), .unset, .unset, .unset, .unset, .unset, .unset, .unset, .unset, .unset]) b0_40_45 rfl ?_
        have J53_8 : ∀ (z3 : Int32) (hz3 : z3 = 0 ∨ z3 = 1), OG pG l eG room_1 sG mG #[(.int p1)] bG meG cG Z x.cls x.name code maxLocals ret (fun v h => v = some (.int 1)) room_1.cells room_1.slots h0 0 0 (mkF mG 53 #[.val (.int p1), .val (.int z0), .val (.int z1), .val (.int z2), .unset, .unset, .unset, .unset, .unset, .unset, .unset, .unset, .unset] [(.int z3)]) := by
          intro z3 hz3
          refine o_blk (pc' := 55) (st' := []) (ls' := #[.val (.int p1), .val (.int z0), .val (.int z1), .val (.int z2), .val (.int z3), .unset, .unset, .unset, .unset, .unset, .unset, .unset, .unset]) b0_53_55 rfl ?_
          refine o_blk (pc' := 60) (st' := [(.int ((p1 >>> ((4 : Int32) &&& 31)) &&& (1 : Int32)))]) (ls' := #[.val (.int p1), .val (.int z0), .val (.int z1), .val (.int z2), .val (.int z3), .unset, .unset, .unset, .unset, .unset, .unset, .unset, .unset]) b0_55_60 rfl ?_
          have J68_10 : ∀ (z4 : Int32) (hz4 : z4 = 0 ∨ z4 = 1), OG pG l eG room_1 sG mG #[(.int p1)] bG meG cG Z x.cls x.name code maxLocals ret (fun v h => v = some (.int 1)) room_1.cells room_1.slots h0 0 0 (mkF mG 68 #[.val (.int p1), .val (.int z0), .val (.int z1), .val (.int z2), .val (.int z3), .unset, .unset, .unset, .unset, .unset, .unset, .unset, .unset] [(.int z4)]) := by
            intro z4 hz4
            refine o_blk (pc' := 70) (st' := []) (ls' := #[.val (.int p1), .val (.int z0), .val (.int z1), .val (.int z2), .val (.int z3), .val (.int z4), .unset, .unset, .unset, .unset, .unset, .unset, .unset]) b0_68_70 rfl ?_
            refine o_blk (pc' := 75) (st' := [(.int ((p1 >>> ((5 : Int32) &&& 31)) &&& (1 : Int32)))]) (ls' := #[.val (.int p1), .val (.int z0), .val (.int z1), .val (.int z2), .val (.int z3), .val (.int z4), .unset, .unset, .unset, .unset, .unset, .unset, .unset]) b0_70_75 rfl ?_
            have J83_12 : ∀ (z5 : Int32) (hz5 : z5 = 0 ∨ z5 = 1), OG pG l eG room_1 sG mG #[(.int p1)] bG meG cG Z x.cls x.name code maxLocals ret (fun v h => v = some (.int 1)) room_1.cells room_1.slots h0 0 0 (mkF mG 83 #[.val (.int p1), .val (.int z0), .val (.int z1), .val (.int z2), .val (.int z3), .val (.int z4), .unset, .unset, .unset, .unset, .unset, .unset, .unset] [(.int z5)]) := by
              intro z5 hz5
              refine o_blk (pc' := 85) (st' := []) (ls' := #[.val (.int p1), .val (.int z0), .val (.int z1), .val (.int z2), .val (.int z3), .val (.int z4), .val (.int z5), .unset, .unset, .unset, .unset, .unset, .unset]) b0_83_85 rfl ?_
              refine o_blk (pc' := 91) (st' := [(.int ((p1 >>> ((6 : Int32) &&& 31)) &&& (1 : Int32)))]) (ls' := #[.val (.int p1), .val (.int z0), .val (.int z1), .val (.int z2), .val (.int z3), .val (.int z4), .val (.int z5), .unset, .unset, .unset, .unset, .unset, .unset]) b0_85_91 rfl ?_
              have J99_14 : ∀ (z6 : Int32) (hz6 : z6 = 0 ∨ z6 = 1), OG pG l eG room_1 sG mG #[(.int p1)] bG meG cG Z x.cls x.name code maxLocals ret (fun v h => v = some (.int 1)) room_1.cells room_1.slots h0 0 0 (mkF mG 99 #[.val (.int p1), .val (.int z0), .val (.int z1), .val (.int z2), .val (.int z3), .val (.int z4), .val (.int z5), .unset, .unset, .unset, .unset, .unset, .unset] [(.int z6)]) := by
                intro z6 hz6
                refine o_blk (pc' := 101) (st' := []) (ls' := #[.val (.int p1), .val (.int z0), .val (.int z1), .val (.int z2), .val (.int z3), .val (.int z4), .val (.int z5), .val (.int z6), .unset, .unset, .unset, .unset, .unset]) b0_99_101 rfl ?_
                refine o_newO (pc' := 104) (own_word hw 0 rfl) (own_word hw 1 rfl) (own_word hw 2 rfl) d0_101 (by decide) (by decide) rfl ?_
                intro h15 a15 ea15 na15 X15 E15 D15
                have F16 : Fld Z h15 a15 "com/example/vouchsafe/vouchsafe/RetryPause" "millis" "J" (.long (0 : Int64)) := D15 (Or.inl (own_word hw 11 rfl)) (ty := .long) (by decide)
                refine o_blk (pc' := 105) (st' := [(.ref a15), (.ref a15)]) (ls' := #[.val (.int p1), .val (.int z0), .val (.int z1), .val (.int z2), .val (.int z3), .val (.int z4), .val (.int z5), .val (.int z6), .unset, .unset, .unset, .unset, .unset]) b0_104_105 rfl ?_
                refine o_callI (W := 1) (argsL := []) (rest := [(.ref a15)]) (pc' := 108) rfl (own_word hw 3 rfl) (own_word hw 4 rfl) (own_word hw 5 rfl) (own_word hw 2 rfl) (by decide) (fun hE => rm_init l Z a0 hw h15 hE a15 na15 (0 : Int64) E15 F16) d0_105 pd_1 rfl rfl rfl (Nat.le_of_eq rfl) (by decide) (by decide) (by decide) (by decide) rfl ?_
                rintro _ h17 ⟨rfl, E17, F17⟩ hs18
                refine o_blk (pc' := 110) (st' := []) (ls' := #[.val (.int p1), .val (.int z0), .val (.int z1), .val (.int z2), .val (.int z3), .val (.int z4), .val (.int z5), .val (.int z6), .val (.ref a15), .unset, .unset, .unset, .unset]) b0_108_110 rfl ?_
                refine o_blk (pc' := 112) (st' := [(.ref a15)]) (ls' := #[.val (.int p1), .val (.int z0), .val (.int z1), .val (.int z2), .val (.int z3), .val (.int z4), .val (.int z5), .val (.int z6), .val (.ref a15), .unset, .unset, .unset, .unset]) b0_110_112 rfl ?_
                refine o_callV (W := 0) (argsL := []) (rest := []) (pc' := 115) (own_word hw 12 rfl) (own_word hw 13 rfl) (own_word hw 15 rfl) (own_word hw 15 rfl) (own_word hw 14 rfl) (own_word hw 16 rfl) (own_word hw 2 rfl) (by decide) E17 (fun hE => rm_millis l Z a0 hw h17 hE a15 na15 100 E17 F17) d0_112 pd_2 rfl rfl rfl (Nat.le_of_eq rfl) (by decide) (by decide) (by decide) (by decide) rfl ?_
                rintro _ _ ⟨rfl, rfl⟩ hs19
                refine o_ldc2 (pc' := 118) (v := 100) (own_word hw 17 rfl) d0_115 rfl ?_
                refine o_blk (pc' := 119) (st' := [(.int (XT.cmpL 100 (100 : Int64)))]) (ls' := #[.val (.int p1), .val (.int z0), .val (.int z1), .val (.int z2), .val (.int z3), .val (.int z4), .val (.int z5), .val (.int z6), .val (.ref a15), .unset, .unset, .unset, .unset]) b0_118_119 rfl ?_
                refine o_ifN (pc' := 122) d0_119 rfl (by decide : (XT.cmpL 100 (100 : Int64)) = 0) ?_
                refine o_blk (pc' := 123) (st' := [(.int (1 : Int32))]) (ls' := #[.val (.int p1), .val (.int z0), .val (.int z1), .val (.int z2), .val (.int z3), .val (.int z4), .val (.int z5), .val (.int z6), .val (.ref a15), .unset, .unset, .unset, .unset]) b0_122_123 rfl ?_
                refine o_goto (pc' := 127) d0_123 (by decide) (by decide) ?_
                refine o_blk (pc' := 129) (st' := []) (ls' := #[.val (.int p1), .val (.int z0), .val (.int z1), .val (.int z2), .val (.int z3), .val (.int z4), .val (.int z5), .val (.int z6), .val (.ref a15), .val (.int (1 : Int32)), .unset, .unset, .unset]) b0_127_129 rfl ?_
                refine o_blk (pc' := 132) (st' := [(.int z0), (.ref a15)]) (ls' := #[.val (.int p1), .val (.int z0), .val (.int z1), .val (.int z2), .val (.int z3), .val (.int z4), .val (.int z5), .val (.int z6), .val (.ref a15), .val (.int (1 : Int32)), .unset, .unset, .unset]) b0_129_132 rfl ?_
                refine o_callV (W := 0) (argsL := [(.int z0)]) (rest := []) (pc' := 135) (own_word hw 18 rfl) (own_word hw 19 rfl) (own_word hw 21 rfl) (own_word hw 21 rfl) (own_word hw 20 rfl) (own_word hw 22 rfl) (own_word hw 2 rfl) (by decide) E17 (fun hE => rm_after l Z a0 hw z0 h17 hE a15 na15 100 E17 F17) d0_132 pd_3 rfl rfl rfl (Nat.le_of_eq rfl) (by decide) (by decide) (by decide) (by decide) rfl ?_
                rintro _ h20 ⟨rfl, E20, F20⟩ hs21
                generalize hM20 : own_after z0 100 = M20 at F20
                refine o_blk (pc' := 138) (st' := [(.int z1), (.ref a15)]) (ls' := #[.val (.int p1), .val (.int z0), .val (.int z1), .val (.int z2), .val (.int z3), .val (.int z4), .val (.int z5), .val (.int z6), .val (.ref a15), .val (.int (1 : Int32)), .unset, .unset, .unset]) b0_135_138 rfl ?_
                refine o_callV (W := 0) (argsL := [(.int z1)]) (rest := []) (pc' := 141) (own_word hw 18 rfl) (own_word hw 19 rfl) (own_word hw 21 rfl) (own_word hw 21 rfl) (own_word hw 20 rfl) (own_word hw 22 rfl) (own_word hw 2 rfl) (by decide) E20 (fun hE => rm_after l Z a0 hw z1 h20 hE a15 na15 M20 E20 F20) d0_138 pd_3 rfl rfl rfl (Nat.le_of_eq rfl) (by decide) (by decide) (by decide) (by decide) rfl ?_
                rintro _ h22 ⟨rfl, E22, F22⟩ hs23
                generalize hM22 : own_after z1 M20 = M22 at F22
                refine o_blk (pc' := 144) (st' := [(.int z2), (.ref a15)]) (ls' := #[.val (.int p1), .val (.int z0), .val (.int z1), .val (.int z2), .val (.int z3), .val (.int z4), .val (.int z5), .val (.int z6), .val (.ref a15), .val (.int (1 : Int32)), .unset, .unset, .unset]) b0_141_144 rfl ?_
                refine o_callV (W := 0) (argsL := [(.int z2)]) (rest := []) (pc' := 147) (own_word hw 18 rfl) (own_word hw 19 rfl) (own_word hw 21 rfl) (own_word hw 21 rfl) (own_word hw 20 rfl) (own_word hw 22 rfl) (own_word hw 2 rfl) (by decide) E22 (fun hE => rm_after l Z a0 hw z2 h22 hE a15 na15 M22 E22 F22) d0_144 pd_3 rfl rfl rfl (Nat.le_of_eq rfl) (by decide) (by decide) (by decide) (by decide) rfl ?_
                rintro _ h24 ⟨rfl, E24, F24⟩ hs25
                generalize hM24 : own_after z2 M22 = M24 at F24
                refine o_blk (pc' := 151) (st' := [(.int z3), (.ref a15)]) (ls' := #[.val (.int p1), .val (.int z0), .val (.int z1), .val (.int z2), .val (.int z3), .val (.int z4), .val (.int z5), .val (.int z6), .val (.ref a15), .val (.int (1 : Int32)), .unset, .unset, .unset]) b0_147_151 rfl ?_
                refine o_callV (W := 0) (argsL := [(.int z3)]) (rest := []) (pc' := 154) (own_word hw 18 rfl) (own_word hw 19 rfl) (own_word hw 21 rfl) (own_word hw 21 rfl) (own_word hw 20 rfl) (own_word hw 22 rfl) (own_word hw 2 rfl) (by decide) E24 (fun hE => rm_after l Z a0 hw z3 h24 hE a15 na15 M24 E24 F24) d0_151 pd_3 rfl rfl rfl (Nat.le_of_eq rfl) (by decide) (by decide) (by decide) (by decide) rfl ?_
                rintro _ h26 ⟨rfl, E26, F26⟩ hs27
                generalize hM26 : own_after z3 M24 = M26 at F26
                refine o_blk (pc' := 158) (st' := [(.int z4), (.ref a15)]) (ls' := #[.val (.int p1), .val (.int z0), .val (.int z1), .val (.int z2), .val (.int z3), .val (.int z4), .val (.int z5), .val (.int z6), .val (.ref a15), .val (.int (1 : Int32)), .unset, .unset, .unset]) b0_154_158 rfl ?_
                refine o_callV (W := 0) (argsL := [(.int z4)]) (rest := []) (pc' := 161) (own_word hw 18 rfl) (own_word hw 19 rfl) (own_word hw 21 rfl) (own_word hw 21 rfl) (own_word hw 20 rfl) (own_word hw 22 rfl) (own_word hw 2 rfl) (by decide) E26 (fun hE => rm_after l Z a0 hw z4 h26 hE a15 na15 M26 E26 F26) d0_158 pd_3 rfl rfl rfl (Nat.le_of_eq rfl) (by decide) (by decide) (by decide) (by decide) rfl ?_
                rintro _ h28 ⟨rfl, E28, F28⟩ hs29
                generalize hM28 : own_after z4 M26 = M28 at F28
                refine o_blk (pc' := 165) (st' := [(.int z5), (.ref a15)]) (ls' := #[.val (.int p1), .val (.int z0), .val (.int z1), .val (.int z2), .val (.int z3), .val (.int z4), .val (.int z5), .val (.int z6), .val (.ref a15), .val (.int (1 : Int32)), .unset, .unset, .unset]) b0_161_165 rfl ?_
                refine o_callV (W := 0) (argsL := [(.int z5)]) (rest := []) (pc' := 168) (own_word hw 18 rfl) (own_word hw 19 rfl) (own_word hw 21 rfl) (own_word hw 21 rfl) (own_word hw 20 rfl) (own_word hw 22 rfl) (own_word hw 2 rfl) (by decide) E28 (fun hE => rm_after l Z a0 hw z5 h28 hE a15 na15 M28 E28 F28) d0_165 pd_3 rfl rfl rfl (Nat.le_of_eq rfl) (by decide) (by decide) (by decide) (by decide) rfl ?_
                rintro _ h30 ⟨rfl, E30, F30⟩ hs31
                generalize hM30 : own_after z5 M28 = M30 at F30
                refine o_blk (pc' := 172) (st' := [(.int z6), (.ref a15)]) (ls' := #[.val (.int p1), .val (.int z0), .val (.int z1), .val (.int z2), .val (.int z3), .val (.int z4), .val (.int z5), .val (.int z6), .val (.ref a15), .val (.int (1 : Int32)), .unset, .unset, .unset]) b0_168_172 rfl ?_
                refine o_callV (W := 0) (argsL := [(.int z6)]) (rest := []) (pc' := 175) (own_word hw 18 rfl) (own_word hw 19 rfl) (own_word hw 21 rfl) (own_word hw 21 rfl) (own_word hw 20 rfl) (own_word hw 22 rfl) (own_word hw 2 rfl) (by decide) E30 (fun hE => rm_after l Z a0 hw z6 h30 hE a15 na15 M30 E30 F30) d0_172 pd_3 rfl rfl rfl (Nat.le_of_eq rfl) (by decide) (by decide) (by decide) (by decide) rfl ?_
                rintro _ h32 ⟨rfl, E32, F32⟩ hs33
                generalize hM32 : own_after z6 M30 = M32 at F32
                refine o_blk (pc' := 178) (st' := []) (ls' := #[.val (.int p1), .val (.int z0), .val (.int z1), .val (.int z2), .val (.int z3), .val (.int z4), .val (.int z5), .val (.int z6), .val (.ref a15), .val (.int (1 : Int32)), .val (.int (0 : Int32)), .unset, .unset]) b0_175_178 rfl ?_
                refine o_blk (pc' := 181) (st' := [(.int (0 : Int32)), (.int z0)]) (ls' := #[.val (.int p1), .val (.int z0), .val (.int z1), .val (.int z2), .val (.int z3), .val (.int z4), .val (.int z5), .val (.int z6), .val (.ref a15), .val (.int (1 : Int32)), .val (.int (0 : Int32)), .unset, .unset]) b0_178_181 rfl ?_
                refine o_callS (W := 0) (argsL := [(.int z0), (.int (0 : Int32))]) (rest := []) (pc' := 184) (own_word hw 29 rfl) (own_word hw 30 rfl) (own_word hw 31 rfl) (own_word hw 32 rfl) (by decide) (fun hE => rm_run l Z a0 hw z0 (0 : Int32) h32 hE) d0_181 pd_4 rfl rfl rfl (Nat.le_of_eq rfl) (by decide) (by decide) (by decide) (by decide) rfl ?_
                rintro _ _ ⟨rfl, rfl⟩ hs35
                have I34 := own_step (j := 0) (by decide) hz0 own_i0
                rw [hM20] at I34
                generalize own_run z0 (0 : Int32) = k34 at I34 ⊢
                refine o_blk (pc' := 186) (st' := []) (ls' := #[.val (.int p1), .val (.int z0), .val (.int z1), .val (.int z2), .val (.int z3), .val (.int z4), .val (.int z5), .val (.int z6), .val (.ref a15), .val (.int (1 : Int32)), .val (.int k34), .unset, .unset]) b0_184_186 rfl ?_
                refine o_blk (pc' := 189) (st' := [(.int k34), (.int z1)]) (ls' := #[.val (.int p1), .val (.int z0), .val (.int z1), .val (.int z2), .val (.int z3), .val (.int z4), .val (.int z5), .val (.int z6), .val (.ref a15), .val (.int (1 : Int32)), .val (.int k34), .unset, .unset]) b0_186_189 rfl ?_
                refine o_callS (W := 0) (argsL := [(.int z1), (.int k34)]) (rest := []) (pc' := 192) (own_word hw 29 rfl) (own_word hw 30 rfl) (own_word hw 31 rfl) (own_word hw 32 rfl) (by decide) (fun hE => rm_run l Z a0 hw z1 k34 h32 hE) d0_189 pd_4 rfl rfl rfl (Nat.le_of_eq rfl) (by decide) (by decide) (by decide) (by decide) rfl ?_
                rintro _ _ ⟨rfl, rfl⟩ hs37
                have I36 := own_step (j := 1) (by decide) hz1 I34
                rw [hM22] at I36
                generalize own_run z1 k34 = k36 at I36 ⊢
                refine o_blk (pc' := 194) (st' := []) (ls' := #[.val (.int p1), .val (.int z0), .val (.int z1), .val (.int z2), .val (.int z3), .val (.int z4), .val (.int z5), .val (.int z6), .val (.ref a15), .val (.int (1 : Int32)), .val (.int k36), .unset, .unset]) b0_192_194 rfl ?_
                refine o_blk (pc' := 197) (st' := [(.int k36), (.int z2)]) (ls' := #[.val (.int p1), .val (.int z0), .val (.int z1), .val (.int z2), .val (.int z3), .val (.int z4), .val (.int z5), .val (.int z6), .val (.ref a15), .val (.int (1 : Int32)), .val (.int k36), .unset, .unset]) b0_194_197 rfl ?_
                refine o_callS (W := 0) (argsL := [(.int z2), (.int k36)]) (rest := []) (pc' := 200) (own_word hw 29 rfl) (own_word hw 30 rfl) (own_word hw 31 rfl) (own_word hw 32 rfl) (by decide) (fun hE => rm_run l Z a0 hw z2 k36 h32 hE) d0_197 pd_4 rfl rfl rfl (Nat.le_of_eq rfl) (by decide) (by decide) (by decide) (by decide) rfl ?_
                rintro _ _ ⟨rfl, rfl⟩ hs39
                have I38 := own_step (j := 2) (by decide) hz2 I36
                rw [hM24] at I38
                generalize own_run z2 k36 = k38 at I38 ⊢
                refine o_blk (pc' := 202) (st' := []) (ls' := #[.val (.int p1), .val (.int z0), .val (.int z1), .val (.int z2), .val (.int z3), .val (.int z4), .val (.int z5), .val (.int z6), .val (.ref a15), .val (.int (1 : Int32)), .val (.int k38), .unset, .unset]) b0_200_202 rfl ?_
                refine o_blk (pc' := 206) (st' := [(.int k38), (.int z3)]) (ls' := #[.val (.int p1), .val (.int z0), .val (.int z1), .val (.int z2), .val (.int z3), .val (.int z4), .val (.int z5), .val (.int z6), .val (.ref a15), .val (.int (1 : Int32)), .val (.int k38), .unset, .unset]) b0_202_206 rfl ?_
                refine o_callS (W := 0) (argsL := [(.int z3), (.int k38)]) (rest := []) (pc' := 209) (own_word hw 29 rfl) (own_word hw 30 rfl) (own_word hw 31 rfl) (own_word hw 32 rfl) (by decide) (fun hE => rm_run l Z a0 hw z3 k38 h32 hE) d0_206 pd_4 rfl rfl rfl (Nat.le_of_eq rfl) (by decide) (by decide) (by decide) (by decide) rfl ?_
                rintro _ _ ⟨rfl, rfl⟩ hs41
                have I40 := own_step (j := 3) (by decide) hz3 I38
                rw [hM26] at I40
                generalize own_run z3 k38 = k40 at I40 ⊢
                refine o_blk (pc' := 211) (st' := []) (ls' := #[.val (.int p1), .val (.int z0), .val (.int z1), .val (.int z2), .val (.int z3), .val (.int z4), .val (.int z5), .val (.int z6), .val (.ref a15), .val (.int (1 : Int32)), .val (.int k40), .unset, .unset]) b0_209_211 rfl ?_
                refine o_blk (pc' := 215) (st' := [(.int k40), (.int z4)]) (ls' := #[.val (.int p1), .val (.int z0), .val (.int z1), .val (.int z2), .val (.int z3), .val (.int z4), .val (.int z5), .val (.int z6), .val (.ref a15), .val (.int (1 : Int32)), .val (.int k40), .unset, .unset]) b0_211_215 rfl ?_
                refine o_callS (W := 0) (argsL := [(.int z4), (.int k40)]) (rest := []) (pc' := 218) (own_word hw 29 rfl) (own_word hw 30 rfl) (own_word hw 31 rfl) (own_word hw 32 rfl) (by decide) (fun hE => rm_run l Z a0 hw z4 k40 h32 hE) d0_215 pd_4 rfl rfl rfl (Nat.le_of_eq rfl) (by decide) (by decide) (by decide) (by decide) rfl ?_
                rintro _ _ ⟨rfl, rfl⟩ hs43
                have I42 := own_step (j := 4) (by decide) hz4 I40
                rw [hM28] at I42
                generalize own_run z4 k40 = k42 at I42 ⊢
                refine o_blk (pc' := 220) (st' := []) (ls' := #[.val (.int p1), .val (.int z0), .val (.int z1), .val (.int z2), .val (.int z3), .val (.int z4), .val (.int z5), .val (.int z6), .val (.ref a15), .val (.int (1 : Int32)), .val (.int k42), .unset, .unset]) b0_218_220 rfl ?_
                refine o_blk (pc' := 224) (st' := [(.int k42), (.int z5)]) (ls' := #[.val (.int p1), .val (.int z0), .val (.int z1), .val (.int z2), .val (.int z3), .val (.int z4), .val (.int z5), .val (.int z6), .val (.ref a15), .val (.int (1 : Int32)), .val (.int k42), .unset, .unset]) b0_220_224 rfl ?_
                refine o_callS (W := 0) (argsL := [(.int z5), (.int k42)]) (rest := []) (pc' := 227) (own_word hw 29 rfl) (own_word hw 30 rfl) (own_word hw 31 rfl) (own_word hw 32 rfl) (by decide) (fun hE => rm_run l Z a0 hw z5 k42 h32 hE) d0_224 pd_4 rfl rfl rfl (Nat.le_of_eq rfl) (by decide) (by decide) (by decide) (by decide) rfl ?_
                rintro _ _ ⟨rfl, rfl⟩ hs45
                have I44 := own_step (j := 5) (by decide) hz5 I42
                rw [hM30] at I44
                generalize own_run z5 k42 = k44 at I44 ⊢
                refine o_blk (pc' := 229) (st' := []) (ls' := #[.val (.int p1), .val (.int z0), .val (.int z1), .val (.int z2), .val (.int z3), .val (.int z4), .val (.int z5), .val (.int z6), .val (.ref a15), .val (.int (1 : Int32)), .val (.int k44), .unset, .unset]) b0_227_229 rfl ?_
                refine o_blk (pc' := 233) (st' := [(.int k44), (.int z6)]) (ls' := #[.val (.int p1), .val (.int z0), .val (.int z1), .val (.int z2), .val (.int z3), .val (.int z4), .val (.int z5), .val (.int z6), .val (.ref a15), .val (.int (1 : Int32)), .val (.int k44), .unset, .unset]) b0_229_233 rfl ?_
                refine o_callS (W := 0) (argsL := [(.int z6), (.int k44)]) (rest := []) (pc' := 236) (own_word hw 29 rfl) (own_word hw 30 rfl) (own_word hw 31 rfl) (own_word hw 32 rfl) (by decide) (fun hE => rm_run l Z a0 hw z6 k44 h32 hE) d0_233 pd_4 rfl rfl rfl (Nat.le_of_eq rfl) (by decide) (by decide) (by decide) (by decide) rfl ?_
                rintro _ _ ⟨rfl, rfl⟩ hs47
                have I46 := own_step (j := 6) (by decide) hz6 I44
                rw [hM32] at I46
                generalize own_run z6 k44 = k46 at I46 ⊢
                refine o_blk (pc' := 238) (st' := []) (ls' := #[.val (.int p1), .val (.int z0), .val (.int z1), .val (.int z2), .val (.int z3), .val (.int z4), .val (.int z5), .val (.int z6), .val (.ref a15), .val (.int (1 : Int32)), .val (.int k46), .unset, .unset]) b0_236_238 rfl ?_
                refine o_blk (pc' := 242) (st' := [(.int (6 : Int32)), (.int k46)]) (ls' := #[.val (.int p1), .val (.int z0), .val (.int z1), .val (.int z2), .val (.int z3), .val (.int z4), .val (.int z5), .val (.int z6), .val (.ref a15), .val (.int (1 : Int32)), .val (.int k46), .unset, .unset]) b0_238_242 rfl ?_
                refine o_ic (pc' := 251) (pc'' := 245) d0_242 (by decide) (by decide) rfl (fun (hc242_48 : k46 < (6 : Int32)) => ?_) (fun (hc242_48 : ¬ k46 < (6 : Int32)) => ?_)
                ·
                  refine o_ldc2 (pc' := 254) (v := 100) (own_word hw 17 rfl) d0_251 rfl ?_
                  refine o_blk (pc' := 259) (st' := []) (ls' := #[.val (.int p1), .val (.int z0), .val (.int z1), .val (.int z2), .val (.int z3), .val (.int z4), .val (.int z5), .val (.int z6), .val (.ref a15), .val (.int (1 : Int32)), .val (.int k46), .val (.long ((100 : Int64) <<< (k46.toInt64 &&& 63))), .second]) b0_254_259 rfl ?_
                  refine o_blk (pc' := 261) (st' := [(.int (1 : Int32))]) (ls' := #[.val (.int p1), .val (.int z0), .val (.int z1), .val (.int z2), .val (.int z3), .val (.int z4), .val (.int z5), .val (.int z6), .val (.ref a15), .val (.int (1 : Int32)), .val (.int k46), .val (.long ((100 : Int64) <<< (k46.toInt64 &&& 63))), .second]) b0_259_261 rfl ?_
                  refine o_ifN (pc' := 264) d0_261 rfl (by decide : ¬ (1 : Int32) = 0) ?_
                  refine o_blk (pc' := 266) (st' := [(.ref a15)]) (ls' := #[.val (.int p1), .val (.int z0), .val (.int z1), .val (.int z2), .val (.int z3), .val (.int z4), .val (.int z5), .val (.int z6), .val (.ref a15), .val (.int (1 : Int32)), .val (.int k46), .val (.long ((100 : Int64) <<< (k46.toInt64 &&& 63))), .second]) b0_264_266 rfl ?_
                  refine o_callV (W := 0) (argsL := []) (rest := []) (pc' := 269) (own_word hw 12 rfl) (own_word hw 13 rfl) (own_word hw 15 rfl) (own_word hw 15 rfl) (own_word hw 14 rfl) (own_word hw 16 rfl) (own_word hw 2 rfl) (by decide) E32 (fun hE => rm_millis l Z a0 hw h32 hE a15 na15 M32 E32 F32) d0_266 pd_2 rfl rfl rfl (Nat.le_of_eq rfl) (by decide) (by decide) (by decide) (by decide) rfl ?_
                  rintro _ _ ⟨rfl, rfl⟩ hs49
                  refine o_blk (pc' := 272) (st' := [(.int (XT.cmpL M32 ((100 : Int64) <<< (k46.toInt64 &&& 63))))]) (ls' := #[.val (.int p1), .val (.int z0), .val (.int z1), .val (.int z2), .val (.int z3), .val (.int z4), .val (.int z5), .val (.int z6), .val (.ref a15), .val (.int (1 : Int32)), .val (.int k46), .val (.long ((100 : Int64) <<< (k46.toInt64 &&& 63))), .second]) b0_269_272 rfl ?_
                  refine o_ifN (pc' := 275) d0_272 rfl (own_end1 I46 hc242_48 : (XT.cmpL M32 ((100 : Int64) <<< (k46.toInt64 &&& 63))) = 0) ?_
                  refine o_blk (pc' := 276) (st' := [(.int (1 : Int32))]) (ls' := #[.val (.int p1), .val (.int z0), .val (.int z1), .val (.int z2), .val (.int z3), .val (.int z4), .val (.int z5), .val (.int z6), .val (.ref a15), .val (.int (1 : Int32)), .val (.int k46), .val (.long ((100 : Int64) <<< (k46.toInt64 &&& 63))), .second]) b0_275_276 rfl ?_
                  refine o_goto (pc' := 280) d0_276 (by decide) (by decide) ?_
                  exact o_retZ (w := 0) d0_280 (by decide) (by decide) rfl (by decide) rfl
                ·
                  refine o_ldc2 (pc' := 248) (v := 5000) (own_word hw 33 rfl) d0_245 rfl ?_
                  refine o_goto (pc' := 257) d0_248 (by decide) (by decide) ?_
                  refine o_blk (pc' := 259) (st' := []) (ls' := #[.val (.int p1), .val (.int z0), .val (.int z1), .val (.int z2), .val (.int z3), .val (.int z4), .val (.int z5), .val (.int z6), .val (.ref a15), .val (.int (1 : Int32)), .val (.int k46), .val (.long (5000 : Int64)), .second]) b0_257_259 rfl ?_
                  refine o_blk (pc' := 261) (st' := [(.int (1 : Int32))]) (ls' := #[.val (.int p1), .val (.int z0), .val (.int z1), .val (.int z2), .val (.int z3), .val (.int z4), .val (.int z5), .val (.int z6), .val (.ref a15), .val (.int (1 : Int32)), .val (.int k46), .val (.long (5000 : Int64)), .second]) b0_259_261 rfl ?_
                  refine o_ifN (pc' := 264) d0_261 rfl (by decide : ¬ (1 : Int32) = 0) ?_
                  refine o_blk (pc' := 266) (st' := [(.ref a15)]) (ls' := #[.val (.int p1), .val (.int z0), .val (.int z1), .val (.int z2), .val (.int z3), .val (.int z4), .val (.int z5), .val (.int z6), .val (.ref a15), .val (.int (1 : Int32)), .val (.int k46), .val (.long (5000 : Int64)), .second]) b0_264_266 rfl ?_
                  refine o_callV (W := 0) (argsL := []) (rest := []) (pc' := 269) (own_word hw 12 rfl) (own_word hw 13 rfl) (own_word hw 15 rfl) (own_word hw 15 rfl) (own_word hw 14 rfl) (own_word hw 16 rfl) (own_word hw 2 rfl) (by decide) E32 (fun hE => rm_millis l Z a0 hw h32 hE a15 na15 M32 E32 F32) d0_266 pd_2 rfl rfl rfl (Nat.le_of_eq rfl) (by decide) (by decide) (by decide) (by decide) rfl ?_
                  rintro _ _ ⟨rfl, rfl⟩ hs50
                  refine o_blk (pc' := 272) (st' := [(.int (XT.cmpL M32 (5000 : Int64)))]) (ls' := #[.val (.int p1), .val (.int z0), .val (.int z1), .val (.int z2), .val (.int z3), .val (.int z4), .val (.int z5), .val (.int z6), .val (.ref a15), .val (.int (1 : Int32)), .val (.int k46), .val (.long (5000 : Int64)), .second]) b0_269_272 rfl ?_
                  refine o_ifN (pc' := 275) d0_272 rfl (own_end2 I46 hc242_48 : (XT.cmpL M32 (5000 : Int64)) = 0) ?_
                  refine o_blk (pc' := 276) (st' := [(.int (1 : Int32))]) (ls' := #[.val (.int p1), .val (.int z0), .val (.int z1), .val (.int z2), .val (.int z3), .val (.int z4), .val (.int z5), .val (.int z6), .val (.ref a15), .val (.int (1 : Int32)), .val (.int k46), .val (.long (5000 : Int64)), .second]) b0_275_276 rfl ?_
                  refine o_goto (pc' := 280) d0_276 (by decide) (by decide) ?_
                  exact o_retZ (w := 0) d0_280 (by decide) (by decide) rfl (by decide) rfl
              refine o_if (pc' := 98) (pc'' := 94) d0_91 (by decide) (by decide) rfl (fun (hc91_13 : ((p1 >>> ((6 : Int32) &&& 31)) &&& (1 : Int32)) = 0) => ?_) (fun (hc91_13 : ¬ ((p1 >>> ((6 : Int32) &&& 31)) &&& (1 : Int32)) = 0) => ?_)
              ·
                refine o_blk (pc' := 99) (st' := [(.int (0 : Int32))]) (ls' := #[.val (.int p1), .val (.int z0), .val (.int z1), .val (.int z2), .val (.int z3), .val (.int z4), .val (.int z5), .unset, .unset, .unset, .unset, .unset, .unset]) b0_98_99 rfl ?_
                exact J99_14 _ (by decide : (0 : Int32) = 0 ∨ (0 : Int32) = 1)
              ·
                refine o_blk (pc' := 95) (st' := [(.int (1 : Int32))]) (ls' := #[.val (.int p1), .val (.int z0), .val (.int z1), .val (.int z2), .val (.int z3), .val (.int z4), .val (.int z5), .unset, .unset, .unset, .unset, .unset, .unset]) b0_94_95 rfl ?_
                refine o_goto (pc' := 99) d0_95 (by decide) (by decide) ?_
                exact J99_14 _ (by decide : (1 : Int32) = 0 ∨ (1 : Int32) = 1)
            refine o_if (pc' := 82) (pc'' := 78) d0_75 (by decide) (by decide) rfl (fun (hc75_11 : ((p1 >>> ((5 : Int32) &&& 31)) &&& (1 : Int32)) = 0) => ?_) (fun (hc75_11 : ¬ ((p1 >>> ((5 : Int32) &&& 31)) &&& (1 : Int32)) = 0) => ?_)
            ·
              refine o_blk (pc' := 83) (st' := [(.int (0 : Int32))]) (ls' := #[.val (.int p1), .val (.int z0), .val (.int z1), .val (.int z2), .val (.int z3), .val (.int z4), .unset, .unset, .unset, .unset, .unset, .unset, .unset]) b0_82_83 rfl ?_
              exact J83_12 _ (by decide : (0 : Int32) = 0 ∨ (0 : Int32) = 1)
            ·
              refine o_blk (pc' := 79) (st' := [(.int (1 : Int32))]) (ls' := #[.val (.int p1), .val (.int z0), .val (.int z1), .val (.int z2), .val (.int z3), .val (.int z4), .unset, .unset, .unset, .unset, .unset, .unset, .unset]) b0_78_79 rfl ?_
              refine o_goto (pc' := 83) d0_79 (by decide) (by decide) ?_
              exact J83_12 _ (by decide : (1 : Int32) = 0 ∨ (1 : Int32) = 1)
          refine o_if (pc' := 67) (pc'' := 63) d0_60 (by decide) (by decide) rfl (fun (hc60_9 : ((p1 >>> ((4 : Int32) &&& 31)) &&& (1 : Int32)) = 0) => ?_) (fun (hc60_9 : ¬ ((p1 >>> ((4 : Int32) &&& 31)) &&& (1 : Int32)) = 0) => ?_)
          ·
            refine o_blk (pc' := 68) (st' := [(.int (0 : Int32))]) (ls' := #[.val (.int p1), .val (.int z0), .val (.int z1), .val (.int z2), .val (.int z3), .unset, .unset, .unset, .unset, .unset, .unset, .unset, .unset]) b0_67_68 rfl ?_
            exact J68_10 _ (by decide : (0 : Int32) = 0 ∨ (0 : Int32) = 1)
          ·
            refine o_blk (pc' := 64) (st' := [(.int (1 : Int32))]) (ls' := #[.val (.int p1), .val (.int z0), .val (.int z1), .val (.int z2), .val (.int z3), .unset, .unset, .unset, .unset, .unset, .unset, .unset, .unset]) b0_63_64 rfl ?_
            refine o_goto (pc' := 68) d0_64 (by decide) (by decide) ?_
            exact J68_10 _ (by decide : (1 : Int32) = 0 ∨ (1 : Int32) = 1)
        refine o_if (pc' := 52) (pc'' := 48) d0_45 (by decide) (by decide) rfl (fun (hc45_7 : ((p1 >>> ((3 : Int32) &&& 31)) &&& (1 : Int32)) = 0) => ?_) (fun (hc45_7 : ¬ ((p1 >>> ((3 : Int32) &&& 31)) &&& (1 : Int32)) = 0) => ?_)
        ·
          refine o_blk (pc' := 53) (st' := [(.int (0 : Int32))]) (ls' := #[.val (.int p1), .val (.int z0), .val (.int z1), .val (.int z2), .unset, .unset, .unset, .unset, .unset, .unset, .unset, .unset, .unset]) b0_52_53 rfl ?_
          exact J53_8 _ (by decide : (0 : Int32) = 0 ∨ (0 : Int32) = 1)
        ·
          refine o_blk (pc' := 49) (st' := [(.int (1 : Int32))]) (ls' := #[.val (.int p1), .val (.int z0), .val (.int z1), .val (.int z2), .unset, .unset, .unset, .unset, .unset, .unset, .unset, .unset, .unset]) b0_48_49 rfl ?_
          refine o_goto (pc' := 53) d0_49 (by decide) (by decide) ?_
          exact J53_8 _ (by decide : (1 : Int32) = 0 ∨ (1 : Int32) = 1)
      refine o_if (pc' := 38) (pc'' := 34) d0_31 (by decide) (by decide) rfl (fun (hc31_5 : ((p1 >>> ((2 : Int32) &&& 31)) &&& (1 : Int32)) = 0) => ?_) (fun (hc31_5 : ¬ ((p1 >>> ((2 : Int32) &&& 31)) &&& (1 : Int32)) = 0) => ?_)
      ·
        refine o_blk (pc' := 39) (st' := [(.int (0 : Int32))]) (ls' := #[.val (.int p1), .val (.int z0), .val (.int z1), .unset, .unset, .unset, .unset, .unset, .unset, .unset, .unset, .unset, .unset]) b0_38_39 rfl ?_
        exact J39_6 _ (by decide : (0 : Int32) = 0 ∨ (0 : Int32) = 1)
      ·
        refine o_blk (pc' := 35) (st' := [(.int (1 : Int32))]) (ls' := #[.val (.int p1), .val (.int z0), .val (.int z1), .unset, .unset, .unset, .unset, .unset, .unset, .unset, .unset, .unset, .unset]) b0_34_35 rfl ?_
        refine o_goto (pc' := 39) d0_35 (by decide) (by decide) ?_
        exact J39_6 _ (by decide : (1 : Int32) = 0 ∨ (1 : Int32) = 1)
    refine o_if (pc' := 24) (pc'' := 20) d0_17 (by decide) (by decide) rfl (fun (hc17_3 : ((p1 >>> ((1 : Int32) &&& 31)) &&& (1 : Int32)) = 0) => ?_) (fun (hc17_3 : ¬ ((p1 >>> ((1 : Int32) &&& 31)) &&& (1 : Int32)) = 0) => ?_)
    ·
      refine o_blk (pc' := 25) (st' := [(.int (0 : Int32))]) (ls' := #[.val (.int p1), .val (.int z0), .unset, .unset, .unset, .unset, .unset, .unset, .unset, .unset, .unset, .unset, .unset]) b0_24_25 rfl ?_
      exact J25_4 _ (by decide : (0 : Int32) = 0 ∨ (0 : Int32) = 1)
    ·
      refine o_blk (pc' := 21) (st' := [(.int (1 : Int32))]) (ls' := #[.val (.int p1), .val (.int z0), .unset, .unset, .unset, .unset, .unset, .unset, .unset, .unset, .unset, .unset, .unset]) b0_20_21 rfl ?_
      refine o_goto (pc' := 25) d0_21 (by decide) (by decide) ?_
      exact J25_4 _ (by decide : (1 : Int32) = 0 ∨ (1 : Int32) = 1)
  refine o_if (pc' := 10) (pc'' := 6) d0_3 (by decide) (by decide) rfl (fun (hc3_1 : (p1 &&& (1 : Int32)) = 0) => ?_) (fun (hc3_1 : ¬ (p1 &&& (1 : Int32)) = 0) => ?_)
  ·
    refine o_blk (pc' := 11) (st' := [(.int (0 : Int32))]) (ls' := #[.val (.int p1), .unset, .unset, .unset, .unset, .unset, .unset, .unset, .unset, .unset, .unset, .unset, .unset]) b0_10_11 rfl ?_
    exact J11_2 _ (by decide : (0 : Int32) = 0 ∨ (0 : Int32) = 1)
  ·
    refine o_blk (pc' := 7) (st' := [(.int (1 : Int32))]) (ls' := #[.val (.int p1), .unset, .unset, .unset, .unset, .unset, .unset, .unset, .unset, .unset, .unset, .unset, .unset]) b0_6_7 rfl ?_
    refine o_goto (pc' := 11) d0_7 (by decide) (by decide) ?_
    exact J11_2 _ (by decide : (1 : Int32) = 0 ∨ (1 : Int32) = 1)
set_option maxRecDepth 65536 in
set_option maxHeartbeats 40000000 in
theorem comes_1 {Post : Tables → Env → Array Value → State → Outcome → State → Prop} (hpost : ∀ tb e args s v u, (limb_1_1.after args s (.returned v) u = true ∧ limb_1_2.after args s (.returned v) u = true ∧ True) → FrameEnd s (.returned v) u (Jvm.fieldLocs frame_1_writes args s ++ Jvm.arrayLocs frame_1_arrays args s ++ Jvm.staticLocs frame_1_statics s) 16 128 → Post tb e args s (.returned v) u) :
    ArmFor flags0 classFile x code maxLocals ret World_1 tables_1 room_1 Calls_1 rest_1 Pre_1 Post := by
  intro l hfl _ _ p e ha hc hk s m args below hf hA hF happ hP
  obtain ⟨hcalls, hrest, hpre⟩ := hP
  obtain ⟨-, -, -, hnamed, -, -, -, hat⟩ := (Spec.applies_iff hf).mp happ
  obtain ⟨hg, hn⟩ := and_e (Cond.before_iff.mp (show (Jvm.Cond.and given_1 narrow_1).before args s = true from hpre))
  obtain ⟨g0, hg⟩ := and_e hg
  have k0 := hg
  obtain ⟨w0, rfl⟩ : ∃ w0 : Value, args = #[w0] := by
    have hs : args.size = 1 := by simpa [Cond.value, given_1] using g0
    obtain ⟨L⟩ := args
    match L, hs with
    | [w0], _ => exact ⟨w0, rfl⟩
  have hw := fun d (hd : d ∈ tables_1) => atoms_spec (ws := Jvm.Cond.code x code maxLocals ret :: tables_1) hat d (List.mem_cons_of_mem _ hd)
  have hfit : Fit s := fun {y c} hc i hi => by
    obtain ⟨ha, rfl⟩ := Array.getElem?_eq_some_iff.mp hc
    have q := List.all_eq_true.mp ((Array.all_eq_true_iff_forall_mem.mp hF) _ (Array.getElem_mem ha)) i (List.mem_range.mpr hi)
    simpa [Array.getElem?_eq_getElem hi] using q
  obtain ⟨i0, e0⟩ := is_v k0
  obtain rfl : w0 = (.int i0) := Option.some.inj e0
  obtain ⟨n, o, h1, h2, h3, _, L, rfl, ⟨⟨rfl, _⟩, N⟩, hq⟩ := rm_law l s _ hw i0 s.heap ⟨Nat.le_refl _, fun _ _ q => q⟩ tables_1 p e ha hc hk s m _ below hf ((Spec.applies_iff_loose hf).mp happ).1 ⟨rfl, State.Warmed39.refl s, rfl⟩ trivial
  refine ⟨n, _, h1, h2, h3, hpost _ _ _ _ _ _ ⟨Cond.after_iff.mpr rfl, Cond.after_iff.mpr (eq_i res_at (Term.int_eval (1)) rfl), trivial⟩ ⟨hq.1, hq.2.1, (hq.2.2.sift fun y hy => Or.inr (N y hy)).mono (by decide) (by decide)⟩⟩
theorem main_1_1 : Claimed_1_1 := comes_1 fun _ _ _ _ _ _ h hF => ⟨h.1, hF⟩
theorem main_1_2 : Claimed_1_2 := comes_1 fun _ _ _ _ _ _ h hF => ⟨h.2.1, hF⟩
end Jvm.Pilot.@@N@@
namespace Jvm.Pilot.@@N@@
open Jvm Jvm.ClassFile Sem Op Lib Jvm.Free Jvm.Stand Jvm.Pilot.@@N@@.Jvm.D
/-! MADE BY PROGRAM (witnessworld.py) out of the Statement's table words and the real class files: 10 classes; the members and pool entries that the words name. The judged class is class 1, her method 2. -/
namespace start1
open Jvm.ClassFile
def u (s : String) : CpInfo := .utf8 (stringToUtf16 s)
/-- a pool by its gaps: so many unusable entries, then the entry; so many at the end -/
def gap : Nat → List CpInfo → List CpInfo
  | 0, r => r
  | n + 1, r => .unusable :: gap n r
def poolList (es : List (Nat × CpInfo)) (last : Nat) : List CpInfo := es.foldr (fun e r => gap e.1 (e.2 :: r)) (gap last [])
def pool (es : List (Nat × CpInfo)) (last : Nat) : Array CpInfo := ⟨poolList es last⟩
def fileOf (pool : Array CpInfo) (this : Nat) (attrs : Array Attribute := #[]) (ms : Array MethodInfo := #[]) (fl : Nat := 33) (sup : Nat := 0) (ifs : Array Nat := #[]) (fds : Array FieldInfo := #[]) : ClassFile where
  minorVersion := 0
  majorVersion := 65
  constantPool := pool
  accessFlags := fl
  thisClass := this
  superClass := sup
  interfaces := ifs
  fields := fds
  methods := ms
  attributes := attrs
def plain (name : String) (sup : Option ClassId) : Class where
  name := name
  kind := .ordinary
  loader := none
  accessFlags := 33
  super := sup
  interfaces := #[]
  cf := none
  fields := #[]
  methods := #[]
  instanceTypes := #[]
  staticTypes := #[]
  resolved := #[]
  callSites := []
  init := .initialized
  statics := none
  mirror := none

def pool0 : Array CpInfo := pool [(5, u "<init>"), (0, u "()V"), (1, .class_ 10), (1, u "java/lang/Object")] 113

def k0c0 : Code := { maxStack := 0, maxLocals := 1, code := object_method_1_code, exceptionTable := #[], attributes := #[] }
def k0m0 : Method := { name := "<init>", desc := "()V", sig := { parameters := [], returnType := none }, accessFlags := 1, code := some k0c0 }
/-- java/lang/Object -/
def k0 : Class := { plain "java/lang/Object" none with
  accessFlags := 33
  interfaces := #[]
  cf := some (fileOf pool0 8 #[] #[{ accessFlags := 1, nameIndex := 5, descriptorIndex := 6, attributes := #[] }] 33 0 #[] #[])
  fields := #[]
  methods := #[k0m0]
  instanceTypes := #[]
  staticTypes := #[]
  resolved := Array.replicate 124 none
  statics := none }

def pool1 : Array CpInfo := pool [(2, .class_ 4), (0, .nameAndType 5 6), (0, u "java/lang/Object"), (0, u "<init>"), (0, u "()V"), (0, .class_ 8), (0, u "com/example/vouchsafe/vouchsafe/RetryPause"), (0, .methodref 7 3), (0, .methodref 7 11), (0, .nameAndType 12 13), (0, u "millis"), (0, u "()J"), (0, .long 100), (1, .methodref 7 17), (0, .nameAndType 18 19), (0, u "after"), (0, u "(Z)V"), (0, .methodref 21 22), (0, .class_ 23), (0, .nameAndType 24 25), (0, u "com/example/vouchsafe/vouchsafe/RetryPauseAfterPinLaw"), (0, u "run"), (0, u "(ZI)I"), (0, .long 5000), (4, u "law"), (0, u "(I)Z")] 2

def k1m0 : Method := { name := "<init>", desc := "()V", sig := { parameters := [], returnType := none }, accessFlags := 1, code := none }
def k1c1 : Code := { maxStack := 2, maxLocals := 2, code := method_2_code, exceptionTable := #[], attributes := #[] }
def k1m1 : Method := { name := "run", desc := "(ZI)I", sig := { parameters := [.boolean, .int], returnType := some .int }, accessFlags := 10, code := some k1c1 }
def k1c2 : Code := { maxStack := 4, maxLocals := 13, code := code, exceptionTable := #[], attributes := #[] }
def k1m2 : Method := { name := "law", desc := "(I)Z", sig := { parameters := [.int], returnType := some .boolean }, accessFlags := 9, code := some k1c2 }
/-- com/example/vouchsafe/vouchsafe/RetryPauseAfterPinLaw -/
def k1 : Class := { plain "com/example/vouchsafe/vouchsafe/RetryPauseAfterPinLaw" (some 0) with
  accessFlags := 49
  interfaces := #[]
  cf := some (fileOf pool1 21 #[] #[{ accessFlags := 1, nameIndex := 5, descriptorIndex := 6, attributes := #[] }, { accessFlags := 10, nameIndex := 24, descriptorIndex := 25, attributes := #[] }, { accessFlags := 9, nameIndex := 31, descriptorIndex := 32, attributes := #[] }] 49 2 #[] #[])
  fields := #[]
  methods := #[k1m0, k1m1, k1m2]
  instanceTypes := #[]
  staticTypes := #[]
  resolved := Array.replicate 35 none
  statics := none }

def pool2 : Array CpInfo := pool [(1, .methodref 2 3), (0, .class_ 4), (0, .nameAndType 5 6), (0, u "java/lang/Object"), (0, u "<init>"), (0, u "()V"), (0, .class_ 8), (0, u "com/example/vouchsafe/vouchsafe/RetryPause"), (0, .long 100), (1, .fieldref 7 12), (0, .nameAndType 13 14), (0, u "millis"), (0, u "J"), (0, .long 2), (1, .long 5000), (1, .methodref 20 21), (0, .class_ 22), (0, .nameAndType 23 24), (0, u "java/lang/Math"), (0, u "min"), (0, u "(JJ)J"), (0, u "FIRST_MILLIS"), (1, u "LONGEST_MILLIS"), (2, u "()J"), (0, u "after"), (0, u "(Z)V")] 3

def k2c0 : Code := { maxStack := 3, maxLocals := 1, code := prog_14_method_1_code, exceptionTable := #[], attributes := #[] }
def k2m0 : Method := { name := "<init>", desc := "()V", sig := { parameters := [], returnType := none }, accessFlags := 0, code := some k2c0 }
def k2c1 : Code := { maxStack := 2, maxLocals := 1, code := prog_14_method_2_code, exceptionTable := #[], attributes := #[] }
def k2m1 : Method := { name := "millis", desc := "()J", sig := { parameters := [], returnType := some .long }, accessFlags := 0, code := some k2c1 }
def k2c2 : Code := { maxStack := 5, maxLocals := 2, code := prog_14_method_3_code, exceptionTable := #[], attributes := #[] }
def k2m2 : Method := { name := "after", desc := "(Z)V", sig := { parameters := [.boolean], returnType := none }, accessFlags := 0, code := some k2c2 }
/-- com/example/vouchsafe/vouchsafe/RetryPause -/
def k2 : Class := { plain "com/example/vouchsafe/vouchsafe/RetryPause" (some 0) with
  accessFlags := 48
  interfaces := #[]
  cf := some (fileOf pool2 7 #[] #[{ accessFlags := 0, nameIndex := 5, descriptorIndex := 6, attributes := #[] }, { accessFlags := 0, nameIndex := 13, descriptorIndex := 30, attributes := #[] }, { accessFlags := 0, nameIndex := 31, descriptorIndex := 32, attributes := #[] }] 48 2 #[] #[{ accessFlags := 24, nameIndex := 25, descriptorIndex := 14, attributes := #[] }, { accessFlags := 24, nameIndex := 27, descriptorIndex := 14, attributes := #[] }, { accessFlags := 2, nameIndex := 13, descriptorIndex := 14, attributes := #[] }])
  fields := #[{ name := "FIRST_MILLIS", type := .long, accessFlags := 24, slot := 0, constantValue := 0 }, { name := "LONGEST_MILLIS", type := .long, accessFlags := 24, slot := 1, constantValue := 0 }, { name := "millis", type := .long, accessFlags := 2, slot := 0, constantValue := 0 }]
  methods := #[k2m0, k2m1, k2m2]
  instanceTypes := #[.long]
  staticTypes := #[.long, .long]
  resolved := Array.replicate 36 none
  statics := none }

def pool3 : Array CpInfo := pool [(1, .class_ 2), (0, u "java/lang/Math"), (1, .class_ 6), (1, u "java/lang/Object"), (0, u "<init>"), (0, u "()V"), (89, .class_ 100), (1, u "java/lang/Math$RandomNumberGeneratorHolder"), (20, u "(JJ)J"), (50, u "negativeZeroFloatBits"), (0, u "J"), (2, u "negativeZeroDoubleBits"), (24, u "min"), (43, u "$assertionsDisabled"), (0, u "Z"), (91, u "twoToTheDoubleScaleDown"), (0, u "D"), (4, u "twoToTheDoubleScaleUp"), (9, u "E"), (3, u "PI"), (2, u "TAU"), (2, u "DEGREES_TO_RADIANS"), (0, u "RADIANS_TO_DEGREES")] 94

def k3m0 : Method := { name := "<init>", desc := "()V", sig := { parameters := [], returnType := none }, accessFlags := 2, code := none }
def k3c1 : Code := { maxStack := 4, maxLocals := 4, code := jdk_29_method_70_code, exceptionTable := #[], attributes := #[] }
def k3m1 : Method := { name := "min", desc := "(JJ)J", sig := { parameters := [.long, .long], returnType := some .long }, accessFlags := 9, code := some k3c1 }
/-- java/lang/Math -/
def k3 : Class := { plain "java/lang/Math" (some 0) with
  accessFlags := 49
  interfaces := #[]
  cf := some (fileOf pool3 1 #[.nestMembers #[98]] #[{ accessFlags := 2, nameIndex := 7, descriptorIndex := 8, attributes := #[] }, { accessFlags := 9, nameIndex := 201, descriptorIndex := 121, attributes := #[] }] 49 4 #[] #[{ accessFlags := 25, nameIndex := 354, descriptorIndex := 339, attributes := #[] }, { accessFlags := 25, nameIndex := 358, descriptorIndex := 339, attributes := #[] }, { accessFlags := 25, nameIndex := 361, descriptorIndex := 339, attributes := #[] }, { accessFlags := 26, nameIndex := 364, descriptorIndex := 339, attributes := #[] }, { accessFlags := 26, nameIndex := 365, descriptorIndex := 339, attributes := #[] }, { accessFlags := 26, nameIndex := 172, descriptorIndex := 173, attributes := #[] }, { accessFlags := 26, nameIndex := 176, descriptorIndex := 173, attributes := #[] }, { accessFlags := 8, nameIndex := 344, descriptorIndex := 339, attributes := #[] }, { accessFlags := 8, nameIndex := 338, descriptorIndex := 339, attributes := #[] }, { accessFlags := 4120, nameIndex := 245, descriptorIndex := 246, attributes := #[] }])
  fields := #[{ name := "E", type := .double, accessFlags := 25, slot := 0, constantValue := 0 }, { name := "PI", type := .double, accessFlags := 25, slot := 1, constantValue := 0 }, { name := "TAU", type := .double, accessFlags := 25, slot := 2, constantValue := 0 }, { name := "DEGREES_TO_RADIANS", type := .double, accessFlags := 26, slot := 3, constantValue := 0 }, { name := "RADIANS_TO_DEGREES", type := .double, accessFlags := 26, slot := 4, constantValue := 0 }, { name := "negativeZeroFloatBits", type := .long, accessFlags := 26, slot := 5, constantValue := 0 }, { name := "negativeZeroDoubleBits", type := .long, accessFlags := 26, slot := 6, constantValue := 0 }, { name := "twoToTheDoubleScaleUp", type := .double, accessFlags := 8, slot := 7, constantValue := 0 }, { name := "twoToTheDoubleScaleDown", type := .double, accessFlags := 8, slot := 8, constantValue := 0 }, { name := "$assertionsDisabled", type := .boolean, accessFlags := 4120, slot := 9, constantValue := 0 }]
  methods := #[k3m0, k3m1]
  instanceTypes := #[]
  staticTypes := #[.double, .double, .double, .double, .double, .long, .long, .double, .double, .boolean]
  resolved := Array.replicate 460 none
  statics := none }

def pool4 : Array CpInfo := pool [(1, u "java/lang/Cloneable"), (0, .class_ 1), (0, u "java/lang/Object"), (0, .class_ 3)] 3

/-- java/lang/Cloneable -/
def k4 : Class := { plain "java/lang/Cloneable" (some 0) with
  accessFlags := 1537
  interfaces := #[]
  cf := some (fileOf pool4 2 #[] #[] 1537 4 #[] #[])
  fields := #[]
  methods := #[]
  instanceTypes := #[]
  staticTypes := #[]
  resolved := Array.replicate 8 none
  statics := none }

def pool5 : Array CpInfo := pool [(1, u "java/io/Serializable"), (0, .class_ 1), (0, u "java/lang/Object"), (0, .class_ 3)] 3

/-- java/io/Serializable -/
def k5 : Class := { plain "java/io/Serializable" (some 0) with
  accessFlags := 1537
  interfaces := #[]
  cf := some (fileOf pool5 2 #[] #[] 1537 4 #[] #[])
  fields := #[]
  methods := #[]
  instanceTypes := #[]
  staticTypes := #[]
  resolved := Array.replicate 8 none
  statics := none }

/-- the primitive byte -/
def k6 : Class := { plain "byte" none with kind := .primitive 'B', accessFlags := 0x411 }
/-- [B -/
def k7 : Class := { plain "[B" (some 0) with kind := .array 6 .byte, interfaces := #[4, 5], accessFlags := 1041 }

/-- the primitive int -/
def k8 : Class := { plain "int" none with kind := .primitive 'I', accessFlags := 0x411 }
/-- [I -/
def k9 : Class := { plain "[I" (some 0) with kind := .array 8 .int, interfaces := #[4, 5], accessFlags := 1041 }

def heap : Heap := #[]
def classes : Array Class := #[k0, k1, k2, k3, k4, k5, k6, k7, k8, k9]
def interned : List (Array UInt16 × Addr) := []
def slotsUsed : Nat := 0
def theMethod : MethodId := ⟨1, 2⟩
def args0 : Array Value := #[.int 5]
def aboutOver (below : List Frame) : State where
  vm := { classes := classes, interned := interned.toArray }
  heap := heap
  slotsUsed := slotsUsed
  threads := #[{ frames := .invoking theMethod args0 :: below }]
def below0 : List Frame := [.native { method := ⟨0, 0⟩, args := #[] }]
def about1 : State := aboutOver below0
def p0 : Program := .bare "" "" ""
def e0 : Env := launch0.env 0 0 0
theorem w_frames : about1.frames = Frame.invoking theMethod args0 :: below0 := rfl
set_option maxRecDepth 65536 in
theorem w_args : argsFit about1.vm theMethod args0 = true := by decide +kernel
set_option maxRecDepth 65536 in
theorem w_heap : heapFits about1 = true := by decide +kernel
set_option maxRecDepth 65536 in
theorem w_runnable : about1.curStatus? = some .runnable := by decide +kernel
set_option maxRecDepth 65536 in
theorem w_alone : about1.alone = true := by decide +kernel
set_option maxRecDepth 65536 in
theorem w_named : about1.methodNamed? x = some theMethod := by decide +kernel
set_option maxRecDepth 65536 in
theorem w_hears : about1.hears theMethod below0 = true := by decide +kernel
set_option maxRecDepth 65536 in
theorem w_ripe : about1.ripe theMethod args0 below0 = true := by decide +kernel
theorem w_running : about1.status = .running := rfl
set_option maxRecDepth 65536 in
theorem w_room : about1.hasRoom e0.platform room_1 = true :=
  launch0.hasRoom_least _ room_1 (by decide +kernel) (by decide +kernel) (by decide +kernel) (by decide +kernel) (by decide +kernel) (by decide +kernel)
theorem allAtoms_all (ts : List Jvm.Cond) (a : Array Jvm.Value) (st : Jvm.State) : (allAtoms ts).before a st = ts.all (fun c => c.before a st) := by
  induction ts with
  | nil => rfl
  | cons c t ih =>
    show (Jvm.Cond.and c (allAtoms t)).before a st = _
    rw [Jvm.Cond.before_and, ih, List.all_cons]
def words1 : List Jvm.Cond := Jvm.Cond.code x code maxLocals ret :: tables_1
/-- a 'code' word, met by the world's own term for the bytes: nothing is compared byte by byte -/
theorem code_word {y : MethodName} {bytes : ByteArray} {mx : Nat} {rt : Option FieldType} {a : Array Value} {s : State} {m : MethodId} {meth : Method} {c : Code} (h1 : s.methodNamed? y = some m) (h2 : s.vm.method? m = some meth) (h3 : meth.code = some c) (h4 : c.code = bytes)
    (h5 : (c.maxLocals == mx && c.exceptionTable.isEmpty && decide (c.maxStack ≤ mostOperands) && decide (meth.sig.returnType = rt) && !meth.locks && decide (parseMethodDescriptor y.desc = some meth.sig)) = true) : (Jvm.Cond.code y bytes mx rt).before a s = true := by
  simp only [Bool.and_eq_true, beq_iff_eq, Bool.not_eq_true', decide_eq_true_eq] at h5
  obtain ⟨⟨⟨⟨⟨g1, g2⟩, g3⟩, g4⟩, g5⟩, g6⟩ := h5
  simp [Cond.before, Cond.holds, Cond.value, h1, h2, h3, h4, g1, g2, g3, g4, g5, g6]
def isCode : Jvm.Cond → Bool
  | .code _ _ _ _ => true
  | _ => false
theorem all_split {L : List Jvm.Cond} {P : Jvm.Cond → Bool} (h1 : L.all (fun c => isCode c || P c) = true) (h2 : ∀ c ∈ L.filter isCode, P c = true) : L.all P = true := by
  refine List.all_eq_true.mpr fun c hc => ?_
  have h := List.all_eq_true.mp h1 c hc
  rcases Bool.eq_false_or_eq_true (isCode c) with hi | hi
  · exact h2 c (List.mem_filter.mpr ⟨hc, hi⟩)
  · simpa [hi] using h
set_option maxRecDepth 65536 in
theorem w_c0 : (Jvm.Cond.code x code maxLocals ret).before args0 about1 = true := code_word (m := ⟨1, 2⟩) (meth := k1m2) (c := k1c2) (by decide +kernel) rfl rfl rfl (by decide +kernel)
set_option maxRecDepth 65536 in
theorem w_c1 : (Jvm.Cond.code ({ cls := "com/example/vouchsafe/vouchsafe/RetryPause", name := "<init>", desc := "()V" } : Jvm.MethodName) prog_14_method_1_code (1 : Nat) (Option.none : Option Jvm.ClassFile.FieldType)).before args0 about1 = true := code_word (m := ⟨2, 0⟩) (meth := k2m0) (c := k2c0) (by decide +kernel) rfl rfl rfl (by decide +kernel)
set_option maxRecDepth 65536 in
theorem w_c2 : (Jvm.Cond.code ({ cls := "java/lang/Object", name := "<init>", desc := "()V" } : Jvm.MethodName) object_method_1_code (1 : Nat) (Option.none : Option Jvm.ClassFile.FieldType)).before args0 about1 = true := code_word (m := ⟨0, 0⟩) (meth := k0m0) (c := k0c0) (by decide +kernel) rfl rfl rfl (by decide +kernel)
set_option maxRecDepth 65536 in
theorem w_c3 : (Jvm.Cond.code ({ cls := "com/example/vouchsafe/vouchsafe/RetryPause", name := "millis", desc := "()J" } : Jvm.MethodName) prog_14_method_2_code (1 : Nat) (Option.some Jvm.ClassFile.FieldType.long)).before args0 about1 = true := code_word (m := ⟨2, 1⟩) (meth := k2m1) (c := k2c1) (by decide +kernel) rfl rfl rfl (by decide +kernel)
set_option maxRecDepth 65536 in
theorem w_c4 : (Jvm.Cond.code ({ cls := "com/example/vouchsafe/vouchsafe/RetryPause", name := "after", desc := "(Z)V" } : Jvm.MethodName) prog_14_method_3_code (2 : Nat) (Option.none : Option Jvm.ClassFile.FieldType)).before args0 about1 = true := code_word (m := ⟨2, 2⟩) (meth := k2m2) (c := k2c2) (by decide +kernel) rfl rfl rfl (by decide +kernel)
set_option maxRecDepth 65536 in
theorem w_c5 : (Jvm.Cond.code ({ cls := "java/lang/Math", name := "min", desc := "(JJ)J" } : Jvm.MethodName) jdk_29_method_70_code (4 : Nat) (Option.some Jvm.ClassFile.FieldType.long)).before args0 about1 = true := code_word (m := ⟨3, 1⟩) (meth := k3m1) (c := k3c1) (by decide +kernel) rfl rfl rfl (by decide +kernel)
set_option maxRecDepth 65536 in
theorem w_c6 : (Jvm.Cond.code ({ cls := "com/example/vouchsafe/vouchsafe/RetryPauseAfterPinLaw", name := "run", desc := "(ZI)I" } : Jvm.MethodName) method_2_code (2 : Nat) (Option.some Jvm.ClassFile.FieldType.int)).before args0 about1 = true := code_word (m := ⟨1, 1⟩) (meth := k1m1) (c := k1c1) (by decide +kernel) rfl rfl rfl (by decide +kernel)
def codes1 : List Jvm.Cond := [Jvm.Cond.code x code maxLocals ret, Jvm.Cond.code ({ cls := "com/example/vouchsafe/vouchsafe/RetryPause", name := "<init>", desc := "()V" } : Jvm.MethodName) prog_14_method_1_code (1 : Nat) (Option.none : Option Jvm.ClassFile.FieldType), Jvm.Cond.code ({ cls := "java/lang/Object", name := "<init>", desc := "()V" } : Jvm.MethodName) object_method_1_code (1 : Nat) (Option.none : Option Jvm.ClassFile.FieldType), Jvm.Cond.code ({ cls := "com/example/vouchsafe/vouchsafe/RetryPause", name := "millis", desc := "()J" } : Jvm.MethodName) prog_14_method_2_code (1 : Nat) (Option.some Jvm.ClassFile.FieldType.long), Jvm.Cond.code ({ cls := "com/example/vouchsafe/vouchsafe/RetryPause", name := "after", desc := "(Z)V" } : Jvm.MethodName) prog_14_method_3_code (2 : Nat) (Option.none : Option Jvm.ClassFile.FieldType), Jvm.Cond.code ({ cls := "java/lang/Math", name := "min", desc := "(JJ)J" } : Jvm.MethodName) jdk_29_method_70_code (4 : Nat) (Option.some Jvm.ClassFile.FieldType.long), Jvm.Cond.code ({ cls := "com/example/vouchsafe/vouchsafe/RetryPauseAfterPinLaw", name := "run", desc := "(ZI)I" } : Jvm.MethodName) method_2_code (2 : Nat) (Option.some Jvm.ClassFile.FieldType.int)]
set_option maxRecDepth 65536 in
theorem codes_eq : words1.filter isCode = codes1 := rfl
theorem w_codes : ∀ c ∈ words1.filter isCode, c.before args0 about1 = true := by
  rw [codes_eq]
  intro c hc
  simp only [codes1, List.mem_cons, List.not_mem_nil, or_false] at hc
  rcases hc with rfl | rfl | rfl | rfl | rfl | rfl | rfl
  · exact w_c0
  · exact w_c1
  · exact w_c2
  · exact w_c3
  · exact w_c4
  · exact w_c5
  · exact w_c6
set_option maxRecDepth 65536 in
theorem w_t1 : (words1.take 24).all (fun c => isCode c || c.before args0 about1) = true := by decide +kernel
set_option maxRecDepth 65536 in
theorem w_t2 : (words1.drop 24).all (fun c => isCode c || c.before args0 about1) = true := by decide +kernel
theorem w_tables : (allAtoms (Jvm.Cond.code x code maxLocals ret :: tables_1)).before args0 about1 = true := by
  rw [allAtoms_all]
  show words1.all (fun c => c.before args0 about1) = true
  refine all_split ?_ w_codes
  rw [← List.take_append_drop 24 words1, List.all_append, w_t1, w_t2]
  rfl
set_option maxRecDepth 65536 in
theorem w_case : (Jvm.Cond.and given_1 narrow_1).before args0 about1 = true := by decide +kernel
theorem w_applies : (headSpec (Jvm.Cond.code x code maxLocals ret :: tables_1) room_1).applies x e0.platform about1 = true :=
  (Spec.applies_iff w_frames).mpr ⟨w_running, w_runnable, w_alone, w_named, w_hears, w_ripe, w_room, w_tables⟩
theorem atStart : AtStart classFile x code maxLocals ret World_1 tables_1 room_1 Calls_1 rest_1 Pre_1 launch0 p0 e0 about1 theMethod args0 below0 :=
  ⟨lists_1, trivial, launch0.admits_env _ _ _, launch0.least_env, fairChoices_fair.cas, fairChoices_fair.clock, w_frames, w_args, w_heap, w_applies, trivial, trivial, w_case⟩
end start1
theorem witness_1 : WitnessClaimed_1 := ⟨start1.p0, start1.e0, start1.about1, start1.theMethod, start1.args0, start1.below0, start1.atStart⟩
end Jvm.Pilot.@@N@@
