import JvmDerived
import JvmDerived.Pilot.@@N@@Statement
import JvmDerived.Pilot.@@N@@Code
set_option linter.unusedVariables false
set_option linter.unusedSimpArgs false
namespace Jvm.Pilot.@@N@@
open Jvm Jvm.ClassFile Sem Op Lib Jvm.Free Jvm.Stand Jvm.LawKit Jvm.RoadKit Bundle Jvm.Pilot.@@N@@.Jvm.D
section OwnKit
variable {p : Program} {l : Launch} {e : Env} {R : Room} {s : State} {m : MethodId} {args : Array Value} {below : List Frame} {meth : Method} {c : Code} {T : State} {locs : List Loc} {cells slots kc ks : Nat} {Z : State} {a0 : Array Value} {own nm : String} {bytes : ByteArray} {ml : Nat} {ret : Option FieldType} {Q : Option Value → Heap → Prop} {h h' : Heap} {pc pc' : Nat} {ls ls' : Array Slot} {st st' rest : List Value}
/-- what is left to show where the run stands at S -/
def OGoal (p : Program) (e : Env) (below : List Frame) (s : State) (kc ks n0 : Nat) (Q : Option Value → Heap → Prop) (S : State) : Prop :=
  ∃ s₂ o, Steps p.tables e below S s₂ ∧ s₂.status = .running ∧ Ended s₂ below o ∧ ∃ v L, o = .returned v ∧ ((Q v s₂.heap ∧ s.heap.size ≤ s₂.heap.size) ∧ Fr n0 L) ∧ FrameEnd s o s₂ L kc ks
theorem OGoal.via {n0 : Nat} {S S' : State} (hs : ∀ t, Steps p.tables e below S' t → Steps p.tables e below S t) (g : OGoal p e below s kc ks n0 Q S') : OGoal p e below s kc ks n0 Q S := by
  obtain ⟨s2, o, h1, r⟩ := g
  exact ⟨s2, o, hs _ h1, r⟩
/-- what holds throughout a body -/
def OCtx (p : Program) (s : State) (m : MethodId) (meth : Method) (c : Code) (Z : State) (own nm : String) (bytes : ByteArray) (ml : Nat) (ret : Option FieldType) : Prop :=
  p.tables.exec = Jvm.exec ∧ Z.Warmed39 s.vm ∧ s.vm.findClass own = some m.cls ∧ c.code = bytes ∧ c.maxLocals = ml ∧ meth.sig.returnType = ret ∧ meth.locks = false ∧ meth.name = nm ∧ Ext Z.heap s.heap
/-- from every state with the heap h whose top frame is g the body comes to its end -/
def OG (p : Program) (l : Launch) (e : Env) (R : Room) (s : State) (m : MethodId) (args : Array Value) (below : List Frame) (meth : Method) (c : Code) (Z : State) (own nm : String) (bytes : ByteArray) (ml : Nat) (ret : Option FieldType) (Q : Option Value → Heap → Prop) (kc ks : Nat) (h : Heap) (cells slots : Nat) (g : JFrame) : Prop :=
  OCtx p s m meth c Z own nm bytes ml ret → ∀ T locs, Stand p l e R s m args below meth c T locs cells slots → T.heap = h → Fr Z.heap.size locs → OGoal p e below s kc ks Z.heap.size Q (T.setTop g)
theorem own_ext (X : Stand p l e R s m args below meth c T locs cells slots) (E : Ext Z.heap s.heap) (N : Fr Z.heap.size locs) : Ext Z.heap T.heap := by
  have q := X.same
  refine ⟨Nat.le_trans E.1 q.2.1, fun a cl hc => ?_⟩
  obtain ⟨c', h1, h2, h3, h4⟩ := q.2.2.2.2.2 a cl (E.2 a cl hc)
  have ha : a < Z.heap.size := (Array.getElem?_eq_some_iff.mp hc).1
  have e1 : c'.slots = cl.slots := Array.ext_getElem? fun i => h4 i fun hm => absurd (N _ hm) (Nat.not_le.mpr ha)
  rw [e1] at h2
  have e2 : c' = cl := h2
  rw [← e2]
  exact h1
/-- the contract of a body, at its arguments and heap -/
def OCtr (l : Launch) (Z : State) (y : MethodName) (yb : ByteArray) (yl : Nat) (yr : Option FieldType) (rm : Room) (as' : Array Value) (h0 : Heap) (yQ : Option Value → Heap → Prop) : Prop :=
  ∀ ws : List Jvm.Cond, MetFree l y (head1 (Jvm.Cond.code y yb yl yr :: ws) rm) (fun a U => a = as' ∧ Z.Warmed39 U.vm ∧ U.heap = h0) (fun _ _ _ _ _ => True) (fun _ U o U' => ∃ v L, o = .returned v ∧ ((yQ v U'.heap ∧ h0.size ≤ U'.heap.size) ∧ Fr Z.heap.size L) ∧ FrameEnd U o U' L rm.cells rm.slots)
theorem o_body {y : MethodName} {yb : ByteArray} {yl : Nat} {yr : Option FieldType} {rm : Room} {as' : Array Value} {h0 : Heap} {yQ : Option Value → Heap → Prop} {ls0 : Array Slot} (hpl : plainFor y = true) (hE : Ext Z.heap h0)
    (hef : ∀ m : MethodId, entryFrame m as' yl = mkF m 0 ls0 [])
    (k : ∀ (p : Program) (e : Env) (s : State) (m : MethodId) (below : List Frame) (meth : Method) (c : Code), OG p l e rm s m as' below meth c Z y.cls y.name yb yl yr yQ rm.cells rm.slots h0 0 0 (mkF m 0 ls0 [])) : OCtr l Z y yb yl yr rm as' h0 yQ := by
  intro ws
  refine MetFree.of_bodySF hpl hisR ?_
  intro p e s m args below meth c s₁ Bd hml0 hP hK
  obtain ⟨rfl, hZ, hh⟩ := hP
  have X0 : Stand p l e rm s m args below meth c s₁ [] 0 0 := Stand.of_body Bd
  have e0 : s₁.heap = h0 := by rw [← hh, Bd.state]; rfl
  have g := k p e s m below meth c ⟨Bd.exec, hZ, findClass_of_methodNamed Bd.named, Bd.bytes, hml0, Bd.returns, Bd.notSynchronized, (name_of_methodNamed Bd.named Bd.method).1, by rw [hh]; exact hE⟩ s₁ [] X0 e0 (Fr.nil _)
  rw [hef]
  rw [← hh]
  exact g
/-- a single step that leaves the heap -/
theorem o_pure {n : Nat} {i : Instr} (hd : decode bytes pc = .ok (i, n)) (hs : ∀ (T : State) (locs : List Loc), Stand p l e R s m args below meth c T locs cells slots → p.tables.exec = Jvm.exec → decode c.code pc = .ok (i, n) → ∀ t, Steps p.tables e below (T.setTop (mkF m pc' ls' st')) t → Steps p.tables e below (T.setTop (mkF m pc ls st)) t)
    (k : OG p l e R s m args below meth c Z own nm bytes ml ret Q kc ks h cells slots (mkF m pc' ls' st')) : OG p l e R s m args below meth c Z own nm bytes ml ret Q kc ks h cells slots (mkF m pc ls st) := by
  intro C T locs X eT N
  exact OGoal.via (hs T locs X C.1 (hb C.2.2.2.1 hd)) (k C T locs X eT N)
/-! pure instructions, as one function -/
def oBI (f : Int32 → Int32 → Int32) (st : List Value) (ls : Array Slot) : Option (List Value × Array Slot) :=
  match st with
  | .int y :: .int x :: r => some (.int (f x y) :: r, ls)
  | _ => none
def oBL (f : Int64 → Int64 → Int64) (st : List Value) (ls : Array Slot) : Option (List Value × Array Slot) :=
  match st with
  | .long y :: .long x :: r => some (.long (f x y) :: r, ls)
  | _ => none
def oBLI (f : Int64 → Int32 → Int64) (st : List Value) (ls : Array Slot) : Option (List Value × Array Slot) :=
  match st with
  | .int y :: .long x :: r => some (.long (f x y) :: r, ls)
  | _ => none
def oUI (f : Int32 → Int32) (st : List Value) (ls : Array Slot) : Option (List Value × Array Slot) :=
  match st with
  | .int x :: r => some (.int (f x) :: r, ls)
  | _ => none
def oLdI (k : Nat) (st : List Value) (ls : Array Slot) : Option (List Value × Array Slot) :=
  match ls[k]? with
  | some (.val (.int v)) => some (.int v :: st, ls)
  | _ => none
def oLdL (k : Nat) (st : List Value) (ls : Array Slot) : Option (List Value × Array Slot) :=
  match ls[k]? with
  | some (.val (.long v)) => some (.long v :: st, ls)
  | _ => none
def oLdA (k : Nat) (st : List Value) (ls : Array Slot) : Option (List Value × Array Slot) :=
  match ls[k]? with
  | some (.val (.ref v)) => some (.ref v :: st, ls)
  | some (.val .null) => some (.null :: st, ls)
  | _ => none
def oStI (k : Nat) (st : List Value) (ls : Array Slot) : Option (List Value × Array Slot) :=
  match st with
  | .int v :: r => (storeLocals ls k (.int v)).map fun l' => (r, l')
  | _ => none
def oStL (k : Nat) (st : List Value) (ls : Array Slot) : Option (List Value × Array Slot) :=
  match st with
  | .long v :: r => (storeLocals ls k (.long v)).map fun l' => (r, l')
  | _ => none
def oStA (k : Nat) (st : List Value) (ls : Array Slot) : Option (List Value × Array Slot) :=
  match st with
  | .ref v :: r => (storeLocals ls k (.ref v)).map fun l' => (r, l')
  | .null :: r => (storeLocals ls k .null).map fun l' => (r, l')
  | _ => none
def oInc (k : Nat) (q : Int) (st : List Value) (ls : Array Slot) : Option (List Value × Array Slot) :=
  match ls[k]? with
  | some (.val (.int v)) => (storeLocals ls k (.int (v + Int32.ofInt q))).map fun l' => (st, l')
  | _ => none
def oI2L (st : List Value) (ls : Array Slot) : Option (List Value × Array Slot) :=
  match st with
  | .int x :: r => some (.long x.toInt64 :: r, ls)
  | _ => none
def oL2I (st : List Value) (ls : Array Slot) : Option (List Value × Array Slot) :=
  match st with
  | .long x :: r => some (.int x.toInt32 :: r, ls)
  | _ => none
def oCmp (st : List Value) (ls : Array Slot) : Option (List Value × Array Slot) :=
  match st with
  | .long y :: .long x :: r => some (.int (XT.cmpL x y) :: r, ls)
  | _ => none
def oDup (st : List Value) (ls : Array Slot) : Option (List Value × Array Slot) :=
  match st with
  | .int x :: r => some (.int x :: .int x :: r, ls)
  | .ref x :: r => some (.ref x :: .ref x :: r, ls)
  | _ => none
def oPop (st : List Value) (ls : Array Slot) : Option (List Value × Array Slot) :=
  match st with
  | .int _ :: r => some (r, ls)
  | .ref _ :: r => some (r, ls)
  | .null :: r => some (r, ls)
  | _ => none
def oDupX (st : List Value) (ls : Array Slot) : Option (List Value × Array Slot) :=
  match st with
  | .int x :: .ref y :: r => some (.int x :: .ref y :: .int x :: r, ls)
  | _ => none
def oLen : Instr → Nat
  | .iload _ | .lload _ | .aload _ | .istore _ | .lstore _ | .astore _ | .bipush _ => 2
  | .sipush _ | .iinc _ _ => 3
  | _ => 1
def opS (i : Instr) (st : List Value) (ls : Array Slot) : Option (List Value × Array Slot) :=
  match i with
  | .iconst k => some (.int (Int32.ofInt k) :: st, ls)
  | .bipush k => some (.int (Int8.ofInt k).toInt32 :: st, ls)
  | .sipush k => some (.int (Int16.ofInt k).toInt32 :: st, ls)
  | .lconst k => some (.long (Int64.ofNat k) :: st, ls)
  | .aconst_null => some (.null :: st, ls)
  | .iload k => oLdI k st ls
  | .iload_n k => oLdI k.val st ls
  | .lload k => oLdL k st ls
  | .lload_n k => oLdL k.val st ls
  | .aload k => oLdA k st ls
  | .aload_n k => oLdA k.val st ls
  | .istore k => oStI k st ls
  | .istore_n k => oStI k.val st ls
  | .lstore k => oStL k st ls
  | .lstore_n k => oStL k.val st ls
  | .astore k => oStA k st ls
  | .astore_n k => oStA k.val st ls
  | .iinc k q => oInc k q st ls
  | .iadd => oBI (fun x y => x + y) st ls
  | .isub => oBI (fun x y => x - y) st ls
  | .imul => oBI (fun x y => x * y) st ls
  | .iand => oBI (fun x y => x &&& y) st ls
  | .ior => oBI (fun x y => x ||| y) st ls
  | .ixor => oBI (fun x y => x ^^^ y) st ls
  | .ishl => oBI (fun x y => x <<< (y &&& 31)) st ls
  | .ishr => oBI (fun x y => x >>> (y &&& 31)) st ls
  | .iushr => oBI (fun x y => XT.ushr x y) st ls
  | .ladd => oBL (fun x y => x + y) st ls
  | .lsub => oBL (fun x y => x - y) st ls
  | .lmul => oBL (fun x y => x * y) st ls
  | .land => oBL (fun x y => x &&& y) st ls
  | .lor => oBL (fun x y => x ||| y) st ls
  | .lxor => oBL (fun x y => x ^^^ y) st ls
  | .lshl => oBLI (fun x y => x <<< (y.toInt64 &&& 63)) st ls
  | .lshr => oBLI (fun x y => x >>> (y.toInt64 &&& 63)) st ls
  | .lushr => oBLI (fun x y => XT.ushrL x y) st ls
  | .i2b => oUI (fun x => x.toInt8.toInt32) st ls
  | .i2c => oUI (fun x => x.toUInt32.toUInt16.toUInt32.toInt32) st ls
  | .i2s => oUI (fun x => x.toInt16.toInt32) st ls
  | .ineg => oUI (fun x => -x) st ls
  | .i2l => oI2L st ls
  | .l2i => oL2I st ls
  | .lcmp => oCmp st ls
  | .dup => oDup st ls
  | .pop => oPop st ls
  | .dup_x1 => oDupX st ls
  | _ => none
/-- the instructions from pc on, one behind the other; what stands behind them -/
def oBlk (code : ByteArray) : Nat → List Instr → Option Nat
  | pc, [] => some pc
  | pc, i :: is => if decode code pc = .ok (i, oLen i) then oBlk code (pc + oLen i) is else none
def oRun : List Instr → List Value → Array Slot → Option (List Value × Array Slot)
  | [], st, ls => some (st, ls)
  | i :: is, st, ls => match opS i st ls with
    | some (st', ls') => oRun is st' ls'
    | none => none
theorem oBI_inv {f : Int32 → Int32 → Int32} {r : List Value × Array Slot} (q : oBI f st ls = some r) : ∃ x y t, st = .int y :: .int x :: t ∧ r = (.int (f x y) :: t, ls) := by
  unfold oBI at q
  split at q
  · exact ⟨_, _, _, rfl, (Option.some.inj q).symm⟩
  · cases q
theorem oBL_inv {f : Int64 → Int64 → Int64} {r : List Value × Array Slot} (q : oBL f st ls = some r) : ∃ x y t, st = .long y :: .long x :: t ∧ r = (.long (f x y) :: t, ls) := by
  unfold oBL at q
  split at q
  · exact ⟨_, _, _, rfl, (Option.some.inj q).symm⟩
  · cases q
theorem oBLI_inv {f : Int64 → Int32 → Int64} {r : List Value × Array Slot} (q : oBLI f st ls = some r) : ∃ x y t, st = .int y :: .long x :: t ∧ r = (.long (f x y) :: t, ls) := by
  unfold oBLI at q
  split at q
  · exact ⟨_, _, _, rfl, (Option.some.inj q).symm⟩
  · cases q
theorem oUI_inv {f : Int32 → Int32} {r : List Value × Array Slot} (q : oUI f st ls = some r) : ∃ x t, st = .int x :: t ∧ r = (.int (f x) :: t, ls) := by
  unfold oUI at q
  split at q
  · exact ⟨_, _, rfl, (Option.some.inj q).symm⟩
  · cases q
theorem oLdI_inv {k : Nat} {r : List Value × Array Slot} (q : oLdI k st ls = some r) : ∃ v, ls[k]? = some (.val (.int v)) ∧ r = (.int v :: st, ls) := by
  unfold oLdI at q
  split at q
  · next v hv => exact ⟨v, hv, (Option.some.inj q).symm⟩
  · cases q
theorem oLdL_inv {k : Nat} {r : List Value × Array Slot} (q : oLdL k st ls = some r) : ∃ v, ls[k]? = some (.val (.long v)) ∧ r = (.long v :: st, ls) := by
  unfold oLdL at q
  split at q
  · next v hv => exact ⟨v, hv, (Option.some.inj q).symm⟩
  · cases q
theorem oLdA_inv {k : Nat} {r : List Value × Array Slot} (q : oLdA k st ls = some r) : ∃ v, ls[k]? = some (.val v) ∧ v.isRef = true ∧ r = (v :: st, ls) := by
  unfold oLdA at q
  split at q
  · next v hv => exact ⟨.ref v, hv, rfl, (Option.some.inj q).symm⟩
  · next hv => exact ⟨.null, hv, rfl, (Option.some.inj q).symm⟩
  · cases q
theorem own_map {o : Option (Array Slot)} {t : List Value} {r : List Value × Array Slot} (q : o.map (fun l' => (t, l')) = some r) : ∃ l', o = some l' ∧ r = (t, l') := by
  cases o with
  | none => cases q
  | some l' => exact ⟨l', rfl, (Option.some.inj q).symm⟩
theorem oStI_inv {k : Nat} {r : List Value × Array Slot} (q : oStI k st ls = some r) : ∃ v t l', st = .int v :: t ∧ storeLocals ls k (.int v) = some l' ∧ r = (t, l') := by
  unfold oStI at q
  split at q
  · obtain ⟨l', h1, h2⟩ := own_map q; exact ⟨_, _, l', rfl, h1, h2⟩
  · cases q
theorem oStL_inv {k : Nat} {r : List Value × Array Slot} (q : oStL k st ls = some r) : ∃ v t l', st = .long v :: t ∧ storeLocals ls k (.long v) = some l' ∧ r = (t, l') := by
  unfold oStL at q
  split at q
  · obtain ⟨l', h1, h2⟩ := own_map q; exact ⟨_, _, l', rfl, h1, h2⟩
  · cases q
theorem oStA_inv {k : Nat} {r : List Value × Array Slot} (q : oStA k st ls = some r) : ∃ v t l', st = v :: t ∧ v.isRef = true ∧ storeLocals ls k v = some l' ∧ r = (t, l') := by
  unfold oStA at q
  split at q
  · obtain ⟨l', h1, h2⟩ := own_map q; exact ⟨_, _, l', rfl, rfl, h1, h2⟩
  · obtain ⟨l', h1, h2⟩ := own_map q; exact ⟨_, _, l', rfl, rfl, h1, h2⟩
  · cases q
theorem oInc_inv {k : Nat} {z : Int} {r : List Value × Array Slot} (q : oInc k z st ls = some r) : ∃ v l', ls[k]? = some (.val (.int v)) ∧ storeLocals ls k (.int (v + Int32.ofInt z)) = some l' ∧ r = (st, l') := by
  unfold oInc at q
  split at q
  · next v hv => obtain ⟨l', h1, h2⟩ := own_map q; exact ⟨v, l', hv, h1, h2⟩
  · cases q
theorem oI2L_inv {r : List Value × Array Slot} (q : oI2L st ls = some r) : ∃ x t, st = .int x :: t ∧ r = (.long x.toInt64 :: t, ls) := by
  unfold oI2L at q
  split at q
  · exact ⟨_, _, rfl, (Option.some.inj q).symm⟩
  · cases q
theorem oL2I_inv {r : List Value × Array Slot} (q : oL2I st ls = some r) : ∃ x t, st = .long x :: t ∧ r = (.int x.toInt32 :: t, ls) := by
  unfold oL2I at q
  split at q
  · exact ⟨_, _, rfl, (Option.some.inj q).symm⟩
  · cases q
theorem oCmp_inv {r : List Value × Array Slot} (q : oCmp st ls = some r) : ∃ x y t, st = .long y :: .long x :: t ∧ r = (.int (XT.cmpL x y) :: t, ls) := by
  unfold oCmp at q
  split at q
  · exact ⟨_, _, _, rfl, (Option.some.inj q).symm⟩
  · cases q
theorem oDup_inv {r : List Value × Array Slot} (q : oDup st ls = some r) : ∃ x t, st = x :: t ∧ x.category = 1 ∧ r = (x :: x :: t, ls) := by
  unfold oDup at q
  split at q
  · exact ⟨_, _, rfl, rfl, (Option.some.inj q).symm⟩
  · exact ⟨_, _, rfl, rfl, (Option.some.inj q).symm⟩
  · cases q
theorem oPop_inv {r : List Value × Array Slot} (q : oPop st ls = some r) : ∃ x t, st = x :: t ∧ x.category = 1 ∧ r = (t, ls) := by
  unfold oPop at q
  split at q
  · exact ⟨_, _, rfl, rfl, (Option.some.inj q).symm⟩
  · exact ⟨_, _, rfl, rfl, (Option.some.inj q).symm⟩
  · exact ⟨_, _, rfl, rfl, (Option.some.inj q).symm⟩
  · cases q
theorem oDupX_inv {r : List Value × Array Slot} (q : oDupX st ls = some r) : ∃ x y t, st = .int x :: .ref y :: t ∧ r = (.int x :: .ref y :: .int x :: t, ls) := by
  unfold oDupX at q
  split at q
  · exact ⟨_, _, _, rfl, (Option.some.inj q).symm⟩
  · cases q
theorem o_op {i : Instr} (hd : decode bytes pc = .ok (i, oLen i)) (q : opS i st ls = some (st', ls'))
    (k : OG p l e R s m args below meth c Z own nm bytes ml ret Q kc ks h cells slots (mkF m (pc + oLen i) ls' st')) : OG p l e R s m args below meth c Z own nm bytes ml ret Q kc ks h cells slots (mkF m pc ls st) := by
  refine o_pure hd (fun T locs X hx hd t kk => ?_) k
  cases i with
  | iconst z => cases q; exact XS.iconst X.here hx rfl hd kk
  | bipush z => cases q; exact XS.bipush X.here hx rfl hd kk
  | sipush z => cases q; exact XS.sipush X.here hx rfl hd kk
  | lconst z => cases q; exact XT.lconst X.here hx rfl hd kk
  | aconst_null => cases q; exact XS.aconstNull X.here hx rfl hd kk
  | iload z => obtain ⟨v, h1, h3⟩ := oLdI_inv q; cases h3; exact XS.iload X.here hx rfl hd h1 kk
  | iload_n z => obtain ⟨v, h1, h3⟩ := oLdI_inv q; cases h3; exact XS.iloadN X.here hx rfl hd h1 kk
  | lload z => obtain ⟨v, h1, h3⟩ := oLdL_inv q; cases h3; exact XT.lload X.here hx rfl hd h1 kk
  | lload_n z => obtain ⟨v, h1, h3⟩ := oLdL_inv q; cases h3; exact XT.lloadN X.here hx rfl hd h1 kk
  | aload z => obtain ⟨v, h1, h2, h3⟩ := oLdA_inv q; cases h3; exact XS.aload X.here hx rfl hd h1 h2 kk
  | aload_n z => obtain ⟨v, h1, h2, h3⟩ := oLdA_inv q; cases h3; exact XS.aloadN X.here hx rfl hd h1 h2 kk
  | istore z => obtain ⟨v, r, l', rfl, h2, h3⟩ := oStI_inv q; cases h3; exact XS.istore X.here hx rfl hd rfl h2 kk
  | istore_n z => obtain ⟨v, r, l', rfl, h2, h3⟩ := oStI_inv q; cases h3; exact XS.istoreN X.here hx rfl hd rfl h2 kk
  | lstore z => obtain ⟨v, r, l', rfl, h2, h3⟩ := oStL_inv q; cases h3; exact XT.lstore X.here hx rfl hd rfl h2 kk
  | lstore_n z => obtain ⟨v, r, l', rfl, h2, h3⟩ := oStL_inv q; cases h3; exact XT.lstoreN X.here hx rfl hd rfl h2 kk
  | astore z => obtain ⟨v, r, l', rfl, h1, h2, h3⟩ := oStA_inv q; cases h3; exact XS.astore X.here hx rfl hd rfl h1 h2 kk
  | astore_n z => obtain ⟨v, r, l', rfl, h1, h2, h3⟩ := oStA_inv q; cases h3; exact XS.astoreN X.here hx rfl hd rfl h1 h2 kk
  | iinc z y => obtain ⟨v, l', h1, h2, h3⟩ := oInc_inv q; cases h3; exact XS.iinc X.here hx rfl hd h1 h2 kk
  | iadd => obtain ⟨x, y, r, rfl, h3⟩ := oBI_inv q; cases h3; exact XS.iadd X.here hx rfl hd rfl kk
  | isub => obtain ⟨x, y, r, rfl, h3⟩ := oBI_inv q; cases h3; exact XS.isub X.here hx rfl hd rfl kk
  | imul => obtain ⟨x, y, r, rfl, h3⟩ := oBI_inv q; cases h3; exact XS.imul X.here hx rfl hd rfl kk
  | iand => obtain ⟨x, y, r, rfl, h3⟩ := oBI_inv q; cases h3; exact XS.iand X.here hx rfl hd rfl kk
  | ior => obtain ⟨x, y, r, rfl, h3⟩ := oBI_inv q; cases h3; exact XT.ior X.here hx rfl hd rfl kk
  | ixor => obtain ⟨x, y, r, rfl, h3⟩ := oBI_inv q; cases h3; exact XT.ixor X.here hx rfl hd rfl kk
  | ishl => obtain ⟨x, y, r, rfl, h3⟩ := oBI_inv q; cases h3; exact XT.ishl X.here hx rfl hd rfl kk
  | ishr => obtain ⟨x, y, r, rfl, h3⟩ := oBI_inv q; cases h3; exact XT.ishr X.here hx rfl hd rfl kk
  | iushr => obtain ⟨x, y, r, rfl, h3⟩ := oBI_inv q; cases h3; exact XT.iushr X.here hx rfl hd rfl kk
  | ladd => obtain ⟨x, y, r, rfl, h3⟩ := oBL_inv q; cases h3; exact XT.ladd X.here hx rfl hd rfl kk
  | lsub => obtain ⟨x, y, r, rfl, h3⟩ := oBL_inv q; cases h3; exact XT.lsub X.here hx rfl hd rfl kk
  | lmul => obtain ⟨x, y, r, rfl, h3⟩ := oBL_inv q; cases h3; exact XT.lmul X.here hx rfl hd rfl kk
  | land => obtain ⟨x, y, r, rfl, h3⟩ := oBL_inv q; cases h3; exact XT.land X.here hx rfl hd rfl kk
  | lor => obtain ⟨x, y, r, rfl, h3⟩ := oBL_inv q; cases h3; exact XT.lor X.here hx rfl hd rfl kk
  | lxor => obtain ⟨x, y, r, rfl, h3⟩ := oBL_inv q; cases h3; exact XT.lxor X.here hx rfl hd rfl kk
  | lshl => obtain ⟨x, y, r, rfl, h3⟩ := oBLI_inv q; cases h3; exact XT.lshl X.here hx rfl hd rfl kk
  | lshr => obtain ⟨x, y, r, rfl, h3⟩ := oBLI_inv q; cases h3; exact XT.lshr X.here hx rfl hd rfl kk
  | lushr => obtain ⟨x, y, r, rfl, h3⟩ := oBLI_inv q; cases h3; exact XT.lushr X.here hx rfl hd rfl kk
  | i2b => obtain ⟨x, r, rfl, h3⟩ := oUI_inv q; cases h3; exact XT.i2b X.here hx rfl hd rfl kk
  | i2c => obtain ⟨x, r, rfl, h3⟩ := oUI_inv q; cases h3; exact XT.i2c X.here hx rfl hd rfl kk
  | i2s => obtain ⟨x, r, rfl, h3⟩ := oUI_inv q; cases h3; exact XT.i2s X.here hx rfl hd rfl kk
  | ineg => obtain ⟨x, r, rfl, h3⟩ := oUI_inv q; cases h3; exact XS.ineg X.here hx rfl hd rfl kk
  | i2l => obtain ⟨x, r, rfl, h3⟩ := oI2L_inv q; cases h3; exact XT.i2l X.here hx rfl hd rfl kk
  | l2i => obtain ⟨x, r, rfl, h3⟩ := oL2I_inv q; cases h3; exact XT.l2i X.here hx rfl hd rfl kk
  | lcmp => obtain ⟨x, y, r, rfl, h3⟩ := oCmp_inv q; cases h3; exact XT.lcmp X.here hx rfl hd rfl kk
  | dup => obtain ⟨x, r, rfl, hc, h3⟩ := oDup_inv q; cases h3; exact XS.dup X.here hx rfl hd rfl hc kk
  | pop => obtain ⟨x, r, rfl, hc, h3⟩ := oPop_inv q; cases h3; exact XT.pop X.here hx rfl hd rfl hc kk
  | dup_x1 => obtain ⟨x, y, r, rfl, h3⟩ := oDupX_inv q; cases h3; exact XT.dupX1 X.here hx rfl hd rfl rfl rfl kk
  | _ => cases q
theorem o_blk : ∀ {is : List Instr} {pc : Nat} {st : List Value} {ls : Array Slot}, oBlk bytes pc is = some pc' → oRun is st ls = some (st', ls') →
    OG p l e R s m args below meth c Z own nm bytes ml ret Q kc ks h cells slots (mkF m pc' ls' st') → OG p l e R s m args below meth c Z own nm bytes ml ret Q kc ks h cells slots (mkF m pc ls st)
  | [], pc, st, ls, hb, hr, k => by
    cases hb; cases hr; exact k
  | i :: is, pc, st, ls, hb, hr, k => by
    unfold oBlk at hb
    split at hb
    · next hd =>
      unfold oRun at hr
      split at hr
      · next st1 ls1 hq => exact o_op hd hq (o_blk hb hr k)
      · cases hr
    · cases hb
/-! branches -/
def oC : ClassFile.Cond → Int32 → Int32 → Prop
  | .eq, x, y => x = y
  | .ne, x, y => ¬ x = y
  | .lt, x, y => x < y
  | .ge, x, y => ¬ x < y
  | .gt, x, y => y < x
  | .le, x, y => ¬ y < x
def oCn : ClassFile.Cond → Int32 → Int32 → Prop
  | .eq, x, y => ¬ x = y
  | .ne, x, y => x = y
  | .lt, x, y => ¬ x < y
  | .ge, x, y => x < y
  | .gt, x, y => ¬ y < x
  | .le, x, y => y < x
theorem oC_yes {cd : ClassFile.Cond} {x y : Int32} (q : oC cd x y) : if_icmp.holds cd x y = true := by
  cases cd
  · exact (teq q).1
  · exact (feq q).2
  · exact (tlt q).1
  · exact (flt q).2.1
  · exact (tlt q).2.2.1
  · exact (flt q).2.2.2
theorem oC_no {cd : ClassFile.Cond} {x y : Int32} (q : oCn cd x y) : if_icmp.holds cd x y = false := by
  cases cd
  · exact (feq q).1
  · exact (teq q).2
  · exact (flt q).1
  · exact (tlt q).2.1
  · exact (flt q).2.2.1
  · exact (tlt q).2.2.2
theorem oC_or (cd : ClassFile.Cond) (x y : Int32) : oC cd x y ∨ oCn cd x y := by
  cases cd
  · exact Classical.em _
  · exact (Classical.em (x = y)).symm
  · exact Classical.em _
  · exact (Classical.em (x < y)).symm
  · exact Classical.em _
  · exact (Classical.em (y < x)).symm
theorem o_ifY {cd : ClassFile.Cond} {o : Int} {x : Int32} (hd : decode bytes pc = .ok (.ifCond cd o, 3)) (ho : 0 ≤ (pc : Int) + o) (hp : ((pc : Int) + o).toNat = pc') (hc : oC cd x 0)
    (k : OG p l e R s m args below meth c Z own nm bytes ml ret Q kc ks h cells slots (mkF m pc' ls rest)) : OG p l e R s m args below meth c Z own nm bytes ml ret Q kc ks h cells slots (mkF m pc ls (.int x :: rest)) :=
  o_pure hd (fun T locs X hx hd t kk => XS.ifYes X.here hx rfl (pc0 := pc) rfl hd rfl (by rw [if0]; exact oC_yes hc) ho hp kk) k
theorem o_ifN {cd : ClassFile.Cond} {o : Int} {x : Int32} (hd : decode bytes pc = .ok (.ifCond cd o, 3)) (hp : pc + 3 = pc') (hc : oCn cd x 0)
    (k : OG p l e R s m args below meth c Z own nm bytes ml ret Q kc ks h cells slots (mkF m pc' ls rest)) : OG p l e R s m args below meth c Z own nm bytes ml ret Q kc ks h cells slots (mkF m pc ls (.int x :: rest)) :=
  o_pure hd (fun T locs X hx hd t kk => XS.ifNo X.here hx rfl hd rfl (by rw [if0]; exact oC_no hc) (by subst hp; exact kk)) k
theorem o_if {cd : ClassFile.Cond} {o : Int} {x : Int32} {pc'' : Nat} (hd : decode bytes pc = .ok (.ifCond cd o, 3)) (ho : 0 ≤ (pc : Int) + o) (hp : ((pc : Int) + o).toNat = pc') (hp' : pc + 3 = pc'')
    (ky : oC cd x 0 → OG p l e R s m args below meth c Z own nm bytes ml ret Q kc ks h cells slots (mkF m pc' ls rest)) (kn : oCn cd x 0 → OG p l e R s m args below meth c Z own nm bytes ml ret Q kc ks h cells slots (mkF m pc'' ls rest)) : OG p l e R s m args below meth c Z own nm bytes ml ret Q kc ks h cells slots (mkF m pc ls (.int x :: rest)) :=
  (oC_or cd x 0).elim (fun q => o_ifY hd ho hp q (ky q)) (fun q => o_ifN hd hp' q (kn q))
theorem o_icY {cd : ClassFile.Cond} {o : Int} {x y : Int32} (hd : decode bytes pc = .ok (.if_icmp cd o, 3)) (ho : 0 ≤ (pc : Int) + o) (hp : ((pc : Int) + o).toNat = pc') (hc : oC cd x y)
    (k : OG p l e R s m args below meth c Z own nm bytes ml ret Q kc ks h cells slots (mkF m pc' ls rest)) : OG p l e R s m args below meth c Z own nm bytes ml ret Q kc ks h cells slots (mkF m pc ls (.int y :: .int x :: rest)) :=
  o_pure hd (fun T locs X hx hd t kk => XS.icmpYes X.here hx rfl (pc0 := pc) rfl hd rfl (oC_yes hc) ho hp kk) k
theorem o_icN {cd : ClassFile.Cond} {o : Int} {x y : Int32} (hd : decode bytes pc = .ok (.if_icmp cd o, 3)) (hp : pc + 3 = pc') (hc : oCn cd x y)
    (k : OG p l e R s m args below meth c Z own nm bytes ml ret Q kc ks h cells slots (mkF m pc' ls rest)) : OG p l e R s m args below meth c Z own nm bytes ml ret Q kc ks h cells slots (mkF m pc ls (.int y :: .int x :: rest)) :=
  o_pure hd (fun T locs X hx hd t kk => XS.icmpNo X.here hx rfl hd rfl (oC_no hc) (by subst hp; exact kk)) k
theorem o_ic {cd : ClassFile.Cond} {o : Int} {x y : Int32} {pc'' : Nat} (hd : decode bytes pc = .ok (.if_icmp cd o, 3)) (ho : 0 ≤ (pc : Int) + o) (hp : ((pc : Int) + o).toNat = pc') (hp' : pc + 3 = pc'')
    (ky : oC cd x y → OG p l e R s m args below meth c Z own nm bytes ml ret Q kc ks h cells slots (mkF m pc' ls rest)) (kn : oCn cd x y → OG p l e R s m args below meth c Z own nm bytes ml ret Q kc ks h cells slots (mkF m pc'' ls rest)) : OG p l e R s m args below meth c Z own nm bytes ml ret Q kc ks h cells slots (mkF m pc ls (.int y :: .int x :: rest)) :=
  (oC_or cd x y).elim (fun q => o_icY hd ho hp q (ky q)) (fun q => o_icN hd hp' q (kn q))
def oA : ClassFile.ACond → Value → Value → Prop
  | .eq, x, y => x = y
  | .ne, x, y => ¬ x = y
def oAn : ClassFile.ACond → Value → Value → Prop
  | .eq, x, y => ¬ x = y
  | .ne, x, y => x = y
theorem o_acY {cd : ClassFile.ACond} {o : Int} {x y : Value} (hd : decode bytes pc = .ok (.if_acmp cd o, 3)) (hx' : x.isRef = true) (hy' : y.isRef = true) (ho : 0 ≤ (pc : Int) + o) (hp : ((pc : Int) + o).toNat = pc') (hc : oA cd x y)
    (k : OG p l e R s m args below meth c Z own nm bytes ml ret Q kc ks h cells slots (mkF m pc' ls rest)) : OG p l e R s m args below meth c Z own nm bytes ml ret Q kc ks h cells slots (mkF m pc ls (y :: x :: rest)) :=
  o_pure hd (fun T locs X hx hd t kk => XT.acmpYes X.here hx rfl (pc0 := pc) rfl hd rfl hx' hy' (by cases cd <;> exact decide_eq_true hc) ho hp kk) k
theorem o_acN {cd : ClassFile.ACond} {o : Int} {x y : Value} (hd : decode bytes pc = .ok (.if_acmp cd o, 3)) (hx' : x.isRef = true) (hy' : y.isRef = true) (hp : pc + 3 = pc') (hc : oAn cd x y)
    (k : OG p l e R s m args below meth c Z own nm bytes ml ret Q kc ks h cells slots (mkF m pc' ls rest)) : OG p l e R s m args below meth c Z own nm bytes ml ret Q kc ks h cells slots (mkF m pc ls (y :: x :: rest)) :=
  o_pure hd (fun T locs X hx hd t kk => XT.acmpNo X.here hx rfl hd rfl hx' hy' (by cases cd <;> first | exact decide_eq_false hc | exact decide_eq_false (fun q => q hc)) (by subst hp; exact kk)) k
theorem o_goto {o : Int} (hd : decode bytes pc = .ok (.goto o, 3)) (ho : 0 ≤ (pc : Int) + o) (hp : ((pc : Int) + o).toNat = pc')
    (k : OG p l e R s m args below meth c Z own nm bytes ml ret Q kc ks h cells slots (mkF m pc' ls st)) : OG p l e R s m args below meth c Z own nm bytes ml ret Q kc ks h cells slots (mkF m pc ls st) :=
  o_pure hd (fun T locs X hx hd t kk => XS.goto X.here hx rfl (pc0 := pc) rfl hd ho hp kk) k
theorem o_irem {x y : Int32} (hd : decode bytes pc = .ok (.irem, 1)) (hy : y ≠ 0) (hp : pc + 1 = pc')
    (k : OG p l e R s m args below meth c Z own nm bytes ml ret Q kc ks h cells slots (mkF m pc' ls (.int (x % y) :: rest))) : OG p l e R s m args below meth c Z own nm bytes ml ret Q kc ks h cells slots (mkF m pc ls (.int y :: .int x :: rest)) :=
  o_pure hd (fun T locs X hx hd t kk => iremM X hx rfl hd rfl hy (by subst hp; exact kk)) k
theorem o_idiv {x y : Int32} (hd : decode bytes pc = .ok (.idiv, 1)) (hy : y ≠ 0) (hp : pc + 1 = pc')
    (k : OG p l e R s m args below meth c Z own nm bytes ml ret Q kc ks h cells slots (mkF m pc' ls (.int (x / y) :: rest))) : OG p l e R s m args below meth c Z own nm bytes ml ret Q kc ks h cells slots (mkF m pc ls (.int y :: .int x :: rest)) :=
  o_pure hd (fun T locs X hx hd t kk => XS.idiv X.here hx rfl hd rfl hy (by subst hp; exact kk)) k
/-! constants, statics -/
theorem o_ldc {index : Nat} {v : Int32} (w : (Cond.constant own index v).before a0 Z = true) (hd : decode bytes pc = .ok (.ldc index, 2)) (hp : pc + 2 = pc')
    (k : OG p l e R s m args below meth c Z own nm bytes ml ret Q kc ks h cells slots (mkF m pc' ls (.int v :: st))) : OG p l e R s m args below meth c Z own nm bytes ml ret Q kc ks h cells slots (mkF m pc ls st) := by
  intro C T locs X eT N
  refine OGoal.via (fun t kk => X.ldcInt C.1 C.2.2.1 (mvT C.2.1 w) (g := mkF m pc ls st) rfl (hb C.2.2.2.1 hd) t ?_) (k C T locs X eT N)
  subst hp
  exact kk
theorem o_ldc2 {index : Nat} {v : Int64} (w : (Cond.constantLong own index v).before a0 Z = true) (hd : decode bytes pc = .ok (.ldc2_w index, 3)) (hp : pc + 3 = pc')
    (k : OG p l e R s m args below meth c Z own nm bytes ml ret Q kc ks h cells slots (mkF m pc' ls (.long v :: st))) : OG p l e R s m args below meth c Z own nm bytes ml ret Q kc ks h cells slots (mkF m pc ls st) := by
  intro C T locs X eT N
  refine OGoal.via (fun t kk => X.ldc2Long C.1 C.2.2.1 (mvT C.2.1 w) (g := mkF m pc ls st) rfl (hb C.2.2.2.1 hd) t ?_) (k C T locs X eT N)
  subst hp
  exact kk
theorem o_getS {O n d : String} {index : Nat} {v : Value} (w : (Cond.fieldLink own index O n d).before a0 Z = true) (F : Sta Z Z.heap O n d v) (hd : decode bytes pc = .ok (.getstatic index, 3)) (hp : pc + 3 = pc')
    (k : OG p l e R s m args below meth c Z own nm bytes ml ret Q kc ks h cells slots (mkF m pc' ls (v :: st))) : OG p l e R s m args below meth c Z own nm bytes ml ret Q kc ks h cells slots (mkF m pc ls st) := by
  intro C T locs X eT N
  obtain ⟨T', X', e', stp⟩ := getS (host := "") X C.1 C.2.1 C.2.2.1 w Via.refl eT (F.ext (eT ▸ own_ext X C.2.2.2.2.2.2.2.2 N)) (g := mkF m pc ls st) rfl (hb C.2.2.2.1 hd)
  subst hp
  exact OGoal.via stp (k C T' locs X' e' N)
/-! returns -/
theorem own_end {v : Option Value} {S : State} (X : Stand p l e R s m args below meth c T locs cells slots) (hlk : meth.locks = false) (hv : meth.sig.returnType = none → v = none) (hc : cells ≤ kc) (hs : slots ≤ ks) (N : Fr Z.heap.size locs) (eT : T.heap = h) (hq : Q v h)
    (stp : ∀ fs, (∀ (f : JFrame) (acts : List Action), f.method = m → f.locked = none → f.entered = [] → (doReturn e (T.setTop f) acts v).1 = T.setFrames fs) → Steps p.tables e below S (T.setFrames fs)) : OGoal p e below s kc ks Z.heap.size Q S := by
  obtain ⟨fs, hr, hrun, hended, hW, hsame⟩ := X.leave (v := v) hv hlk
  exact ⟨_, _, stp fs hr, hrun, hended, v, locs, rfl, ⟨⟨by rw [show (T.setFrames fs).heap = h from eT]; exact hq, X.same.2.1⟩, N⟩, ⟨v, rfl⟩, hW, hsame.mono hc hs⟩
theorem o_retI {z : Int32} (hd : decode bytes pc = .ok (.ireturn, 1)) (hc : cells ≤ kc) (hs : slots ≤ ks) (hr : ret = some .int) (hq : Q (some (.int z)) h) : OG p l e R s m args below meth c Z own nm bytes ml ret Q kc ks h cells slots (mkF m pc ls (.int z :: rest)) := by
  intro C T locs X eT N
  have hR : meth.sig.returnType = some .int := C.2.2.2.2.2.1.trans hr
  exact own_end X C.2.2.2.2.2.2.1 (fun q => by rw [hR] at q; cases q) hc hs N eT hq (fun fs hl => retOut X C.1 hR rfl (Or.inl ⟨rfl, Or.inl rfl, z, rfl⟩) (hb C.2.2.2.1 hd) hl)
theorem o_retZ {z w : Int32} (hd : decode bytes pc = .ok (.ireturn, 1)) (hc : cells ≤ kc) (hs : slots ≤ ks) (hr : ret = some .boolean) (hz : z = 0 ∨ z = 1) (hq : Q (some (.int z)) h) : OG p l e R s m args below meth c Z own nm bytes ml ret Q kc ks h cells slots (mkF m pc ls (.int z :: rest)) := by
  intro C T locs X eT N
  have hR : meth.sig.returnType = some .boolean := C.2.2.2.2.2.1.trans hr
  have hn : nar .boolean z = z := by rcases hz with rfl | rfl <;> rfl
  exact own_end X C.2.2.2.2.2.2.1 (fun q => by rw [hR] at q; cases q) hc hs N eT hq (fun fs hl => retN X C.1 hR (Or.inl rfl) (hb C.2.2.2.1 hd) (by rw [hn]; exact hl))
theorem o_retL {z : Int64} (hd : decode bytes pc = .ok (.lreturn, 1)) (hc : cells ≤ kc) (hs : slots ≤ ks) (hr : ret = some .long) (hq : Q (some (.long z)) h) : OG p l e R s m args below meth c Z own nm bytes ml ret Q kc ks h cells slots (mkF m pc ls (.long z :: rest)) := by
  intro C T locs X eT N
  have hR : meth.sig.returnType = some .long := C.2.2.2.2.2.1.trans hr
  exact own_end X C.2.2.2.2.2.2.1 (fun q => by rw [hR] at q; cases q) hc hs N eT hq (fun fs hl => retOut X C.1 hR rfl (Or.inr (Or.inl ⟨rfl, rfl, z, rfl⟩)) (hb C.2.2.2.1 hd) hl)
theorem o_retA {w : Value} {t : FieldType} (hd : decode bytes pc = .ok (.areturn, 1)) (hc : cells ≤ kc) (hs : slots ≤ ks) (hr : ret = some t) (ht : t.isReference = true) (hw : w.isRef = true) (hq : Q (some w) h) : OG p l e R s m args below meth c Z own nm bytes ml ret Q kc ks h cells slots (mkF m pc ls (w :: rest)) := by
  intro C T locs X eT N
  have hR : meth.sig.returnType = some t := C.2.2.2.2.2.1.trans hr
  have hn : narrow t w = w := by cases t <;> first | rfl | (cases ht; done)
  exact own_end X C.2.2.2.2.2.2.1 (fun q => by rw [hR] at q; cases q) hc hs N eT hq (fun fs hl => retOut X C.1 hR hn (Or.inr (Or.inr (Or.inr (Or.inr ⟨rfl, ht, hw⟩)))) (hb C.2.2.2.1 hd) hl)
theorem o_retV (hd : decode bytes pc = .ok (.return_, 1)) (hc : cells ≤ kc) (hs : slots ≤ ks) (hr : ret = none) (hq : Q none h) : OG p l e R s m args below meth c Z own nm bytes ml ret Q kc ks h cells slots (mkF m pc ls []) := by
  intro C T locs X eT N
  exact own_end X C.2.2.2.2.2.2.1 (fun _ => rfl) hc hs N eT hq (fun fs hl => X.returnOut C.1 (C.2.2.2.2.2.1.trans hr) (hb C.2.2.2.1 hd) hl)
/-! calls -/
theorem o_callS {index yl W : Nat} {y : MethodName} {yb : ByteArray} {yr : Option FieldType} {rm : Room} {yQ : Option Value → Heap → Prop} {argsL : List Value} {ps : List FieldType} {yr' : Option FieldType}
    (w1 : (Cond.methodLink own index y).before a0 Z = true) (w2 : (Cond.static y).before a0 Z = true) (w3 : (Cond.initialized y.cls).before a0 Z = true) (w4 : (Cond.code y yb yl yr).before a0 Z = true)
    (hy : y.cls ≠ "java/lang/invoke/MethodHandle" ∧ y.cls ≠ "java/lang/invoke/VarHandle") (K : Ext Z.heap h → OCtr l Z y yb yl yr rm argsL.toArray h yQ) (hd : decode bytes pc = .ok (.invokestatic index, 3))
    (hpd : parseMethodDescriptor y.desc = some ⟨ps, yr'⟩) (hpl : argsL.length = ps.length) (hsz : ls.size = ml) (hst : st = argsL.reverse ++ rest) (hW : (rest.map fun v => v.category).sum ≤ W)
    (hf : rm.frames + 1 ≤ R.frames) (hl : W + (yl + 11) + rm.locals ≤ R.locals) (hcc : cells + rm.cells ≤ R.cells) (hss : slots + rm.slots ≤ R.slots) (hp : pc + 3 = pc')
    (k : ∀ v h', yQ v h' → h.size ≤ h'.size → OG p l e R s m args below meth c Z own nm bytes ml ret Q kc ks h' (cells + rm.cells) (slots + rm.slots) (mkF m pc' ls (v.toList ++ rest))) : OG p l e R s m args below meth c Z own nm bytes ml ret Q kc ks h cells slots (mkF m pc ls st) := by
  intro C T locs X eT N
  have hE : Ext Z.heap h := eT ▸ own_ext X C.2.2.2.2.2.2.2.2 N
  obtain ⟨v, vm₁, ⟨T', L', k', n'⟩, -, X', ⟨L, ⟨hQ, hN⟩, e1, e2, e3⟩, stp⟩ := Jvm.LawKit.callS X C.1 (y := y) C.2.2.1 (mvT C.2.1 w1) (mvT C.2.1 w2) (mvT C.2.1 w3) (mvT C.2.1 w4) hy
    (backOf (W := W) (Q := fun v h2 L => (yQ v h2 ∧ h.size ≤ h2.size) ∧ Fr Z.heap.size L) (K hE []) C.2.1 w4 w3 hf hl) (g := mkF m pc ls st) rfl (hsz.trans C.2.2.2.2.1.symm) (argsL := argsL) (rest := rest) (lenOf hpd hpl) hst (by show 2 * 0 + _ ≤ _; rw [Nat.mul_zero, Nat.zero_add]; exact hW) (hb C.2.2.2.1 hd) (fun _ _ => ⟨rfl, eT, hcc, hss⟩)
  dsimp only [Pt.U, Pt.locs, Pt.cells, Pt.slots] at X' e1 e2 e3 hQ stp
  subst e1 e2 e3 hp
  exact OGoal.via stp (k v T'.heap hQ.1 hQ.2 C T' _ X' rfl (Fr.app N hN))
theorem o_callV {index yl W : Nat} {C0 C1 : String} {y z : MethodName} {yb : ByteArray} {yr : Option FieldType} {rm : Room} {yQ : Option Value → Heap → Prop} {a : Addr} {argsL : List Value} {ps : List FieldType} {yr' : Option FieldType}
    (w1 : (Cond.methodLink own index y).before a0 Z = true) (w2 : (Cond.declares y).before a0 Z = true) (w3 : (Cond.selects C0 y z).before a0 Z = true) (wf : (Cond.selects C1 y y).before a0 Z = true) (w4 : (Cond.instanceMethod z).before a0 Z = true) (w5 : (Cond.code z yb yl yr).before a0 Z = true) (w6 : (Cond.initialized z.cls).before a0 Z = true)
    (hy : y.cls ≠ "java/lang/invoke/MethodHandle" ∧ y.cls ≠ "java/lang/invoke/VarHandle") (E : Exa Z h a C0) (K : Ext Z.heap h → OCtr l Z z yb yl yr rm (.ref a :: argsL).toArray h yQ) (hd : decode bytes pc = .ok (.invokevirtual index, 3))
    (hpd : parseMethodDescriptor y.desc = some ⟨ps, yr'⟩) (hpl : argsL.length = ps.length) (hsz : ls.size = ml) (hst : st = argsL.reverse ++ .ref a :: rest) (hW : (rest.map fun v => v.category).sum ≤ W)
    (hf : rm.frames + 1 ≤ R.frames) (hl : W + (yl + 11) + rm.locals ≤ R.locals) (hcc : cells + rm.cells ≤ R.cells) (hss : slots + rm.slots ≤ R.slots) (hp : pc + 3 = pc')
    (k : ∀ v h', yQ v h' → h.size ≤ h'.size → OG p l e R s m args below meth c Z own nm bytes ml ret Q kc ks h' (cells + rm.cells) (slots + rm.slots) (mkF m pc' ls (v.toList ++ rest))) : OG p l e R s m args below meth c Z own nm bytes ml ret Q kc ks h cells slots (mkF m pc ls st) := by
  intro C T locs X eT N
  have hE : Ext Z.heap h := eT ▸ own_ext X C.2.2.2.2.2.2.2.2 N
  obtain ⟨cq, kq, qa, qb, qc⟩ := isOf C.2.1 eT E
  obtain ⟨v, vm₁, ⟨T', L', k', n'⟩, -, X', ⟨L, ⟨hQ, hN⟩, e1, e2, e3⟩, stp⟩ := X.virtualBack C.1 (y := y) (z := z) C.2.2.1 (mvT C.2.1 w1) (mvT C.2.1 w2) (notFace_of_selects (args := #[]) (mvT C.2.1 wf)) (mvT C.2.1 w3) (mvT C.2.1 w4) hy
    (backOf (W := W) (Q := fun v h2 L => (yQ v h2 ∧ h.size ≤ h2.size) ∧ Fr Z.heap.size L) (K hE []) C.2.1 w5 w6 hf hl) qa qc (g := mkF m pc ls st) rfl (hsz.trans C.2.2.2.2.1.symm) (Steps.refl _) (argsL := argsL) (rest := rest) (lenOf hpd hpl) hst (by show 2 * 0 + _ ≤ _; rw [Nat.mul_zero, Nat.zero_add]; exact hW) (hb C.2.2.2.1 hd) (fun _ _ => ⟨rfl, eT, hcc, hss⟩)
  dsimp only [Pt.U, Pt.locs, Pt.cells, Pt.slots] at X' e1 e2 e3 hQ stp
  subst e1 e2 e3 hp
  exact OGoal.via (fun t kk => stp.trans kk) (k v T'.heap hQ.1 hQ.2 C T' _ X' rfl (Fr.app N hN))
theorem o_callI {index yl W : Nat} {y : MethodName} {yb : ByteArray} {rm : Room} {yQ : Option Value → Heap → Prop} {a : Addr} {argsL : List Value} {ps : List FieldType} {yr' : Option FieldType}
    (hyn : y.name = "<init>") (w1 : (Cond.methodLink own index y).before a0 Z = true) (w4 : (Cond.instanceMethod y).before a0 Z = true) (w5 : (Cond.code y yb yl none).before a0 Z = true) (w6 : (Cond.initialized y.cls).before a0 Z = true)
    (hy : y.cls ≠ "java/lang/invoke/MethodHandle" ∧ y.cls ≠ "java/lang/invoke/VarHandle") (K : Ext Z.heap h → OCtr l Z y yb yl none rm (.ref a :: argsL).toArray h yQ) (hd : decode bytes pc = .ok (.invokespecial index, 3))
    (hpd : parseMethodDescriptor y.desc = some ⟨ps, yr'⟩) (hpl : argsL.length = ps.length) (hsz : ls.size = ml) (hst : st = argsL.reverse ++ .ref a :: rest) (hW : (rest.map fun v => v.category).sum ≤ W)
    (hf : rm.frames + 1 ≤ R.frames) (hl : W + (yl + 11) + rm.locals ≤ R.locals) (hcc : cells + rm.cells ≤ R.cells) (hss : slots + rm.slots ≤ R.slots) (hp : pc + 3 = pc')
    (k : ∀ v h', yQ v h' → h.size ≤ h'.size → OG p l e R s m args below meth c Z own nm bytes ml ret Q kc ks h' (cells + rm.cells) (slots + rm.slots) (mkF m pc' ls (v.toList ++ rest))) : OG p l e R s m args below meth c Z own nm bytes ml ret Q kc ks h cells slots (mkF m pc ls st) := by
  intro C T locs X eT N
  have hE : Ext Z.heap h := eT ▸ own_ext X C.2.2.2.2.2.2.2.2 N
  obtain ⟨v, vm₁, ⟨T', L', k', n'⟩, -, X', ⟨L, ⟨hQ, hN⟩, e1, e2, e3⟩, stp⟩ := X.specialBack C.1 (y := y) hyn C.2.2.1 (mvT C.2.1 w1) (mvT C.2.1 w4) (mvT C.2.1 w5) hy
    (backOf (W := W) (Q := fun v h2 L => (yQ v h2 ∧ h.size ≤ h2.size) ∧ Fr Z.heap.size L) (K hE []) C.2.1 w5 w6 hf hl) (g := mkF m pc ls st) rfl (hsz.trans C.2.2.2.2.1.symm) (Steps.refl _) (a := a) (argsL := argsL) (rest := rest) (lenOf hpd hpl) hst (by show 2 * 0 + _ ≤ _; rw [Nat.mul_zero, Nat.zero_add]; exact hW) (hb C.2.2.2.1 hd) (fun _ _ => ⟨rfl, eT, hcc, hss⟩)
  dsimp only [Pt.U, Pt.locs, Pt.cells, Pt.slots] at X' e1 e2 e3 hQ stp
  subst e1 e2 e3 hp
  exact OGoal.via (fun t kk => stp.trans kk) (k v T'.heap hQ.1 hQ.2 C T' _ X' rfl (Fr.app N hN))
theorem o_initO {index W : Nat} {a : Addr} (w1 : (Cond.methodLink own index Lib.objectInit).before a0 Z = true) (w2 : (Cond.instanceMethod Lib.objectInit).before a0 Z = true) (w3 : (Cond.code Lib.objectInit ⟨#[0xb1]⟩ 1 none).before a0 Z = true)
    (hd : decode bytes pc = .ok (.invokespecial index, 3)) (hsz : ls.size = ml) (hW : (rest.map fun v => v.category).sum ≤ W) (hf : 1 ≤ R.frames) (hl : W + 12 ≤ R.locals) (hp : pc + 3 = pc')
    (k : OG p l e R s m args below meth c Z own nm bytes ml ret Q kc ks h cells slots (mkF m pc' ls rest)) : OG p l e R s m args below meth c Z own nm bytes ml ret Q kc ks h cells slots (mkF m pc ls (.ref a :: rest)) := by
  intro C T locs X eT N
  obtain ⟨T', X', e', stp⟩ := initO X C.1 C.2.1 C.2.2.1 w1 w2 w3 eT (g := mkF m pc ls (.ref a :: rest)) rfl (hsz.trans C.2.2.2.2.1.symm) rfl (hb C.2.2.2.1 hd) hf (W := W) (by show 2 * 0 + _ ≤ _; rw [Nat.mul_zero, Nat.zero_add]; exact hW) hl
  subst hp
  exact OGoal.via stp (k C T' locs X' e' N)
/-! objects -/
theorem o_getF {O n d host : String} {index : Nat} {a : Addr} {v : Value} (w : (Cond.fieldLink own index O n d).before a0 Z = true ∨ (Cond.fieldLinkNest own index O n d host).before a0 Z = true) (F : Fld Z h a O n d v) (hd : decode bytes pc = .ok (.getfield index, 3)) (hp : pc + 3 = pc')
    (k : OG p l e R s m args below meth c Z own nm bytes ml ret Q kc ks h cells slots (mkF m pc' ls (v :: rest))) : OG p l e R s m args below meth c Z own nm bytes ml ret Q kc ks h cells slots (mkF m pc ls (.ref a :: rest)) := by
  intro C T locs X eT N
  obtain ⟨T', X', e', stp⟩ := getF X C.1 C.2.1 C.2.2.1 w Via.refl eT F (g := mkF m pc ls (.ref a :: rest)) rfl rfl (hb C.2.2.2.1 hd)
  subst hp
  exact OGoal.via stp (k C T' locs X' e' N)
theorem o_putF {O n d host C0 : String} {index kk : Nat} {ty : FieldType} {a : Addr} {v old : Value} (w : (Cond.fieldLink own index O n d).before a0 Z = true ∨ (Cond.fieldLinkNest own index O n d host).before a0 Z = true) (F : Fld Z h a O n d old) (E : Exa Z h a C0)
    (L : (Cond.lays C0 O n d).before a0 Z = true ∨ ((Cond.laysFinal C0 O n d).before a0 Z = true ∧ own = O ∧ nm = "<init>")) (wi : (Cond.instantiable C0 kk).before a0 Z = true) (hty : parseFieldDescriptor d = some ty) (hn : narrow ty v = v) (hf : fits ty v = true) (ha : Z.heap.size ≤ a)
    (hd : decode bytes pc = .ok (.putfield index, 3)) (hp : pc + 3 = pc')
    (k : ∀ h', Wr h h' a (Jvm.RoadKit.slotOf Z O n d) v → OG p l e R s m args below meth c Z own nm bytes ml ret Q kc ks h' cells slots (mkF m pc' ls rest)) : OG p l e R s m args below meth c Z own nm bytes ml ret Q kc ks h cells slots (mkF m pc ls (v :: .ref a :: rest)) := by
  intro C T locs X eT N
  obtain ⟨T', h', X', e', W', stp⟩ := putF X C.1 C.2.1 C.2.2.1 w Via.refl eT F E (L.imp id fun q => ⟨q.1, q.2.1, C.2.2.2.2.2.2.2.1.trans q.2.2⟩) wi hty hn hf (g := mkF m pc ls (v :: .ref a :: rest)) rfl rfl (hb C.2.2.2.1 hd)
  subst hp
  exact OGoal.via stp (k h' W' C T' _ X' e' (Fr.snoc X' N ha))
theorem o_newO {C0 : String} {index n : Nat} (w : (Cond.classLink own index C0).before a0 Z = true) (wi : (Cond.instantiable C0 n).before a0 Z = true) (wz : (Cond.initialized C0).before a0 Z = true) (hd : decode bytes pc = .ok (.new index, 3)) (hc : cells + 1 ≤ R.cells) (hl : slots + n ≤ R.slots) (hp : pc + 3 = pc')
    (k : ∀ h' a, a = h.size → Z.heap.size ≤ a → Ext h h' → Exa Z h' a C0 → (∀ {O nm d : String} {ty : FieldType}, Laid Z a0 C0 O nm d → parseFieldDescriptor d = some ty → Fld Z h' a O nm d (defaultValue ty)) → OG p l e R s m args below meth c Z own nm bytes ml ret Q kc ks h' (cells + 1) (slots + n) (mkF m pc' ls (.ref a :: st))) : OG p l e R s m args below meth c Z own nm bytes ml ret Q kc ks h cells slots (mkF m pc ls st) := by
  intro C T locs X eT N
  have hE : Ext Z.heap h := eT ▸ own_ext X C.2.2.2.2.2.2.2.2 N
  obtain ⟨T', h', X', e', E', A', D', -, stp⟩ := newO X C.1 C.2.1 C.2.2.1 w wi wz eT (g := mkF m pc ls st) rfl (hb C.2.2.2.1 hd) hc hl
  subst hp
  exact OGoal.via stp (k h' h.size rfl hE.1 E' A' D' C T' _ X' e' N)
theorem own_word {L : List Jvm.Cond} {dc : Jvm.Cond} (hw : ∀ d ∈ L, d.before a0 Z = true) (i : Nat) (q : L[i]? = some dc) : dc.before a0 Z = true := hw _ (List.mem_of_getElem? q)
end OwnKit
section ArrKit
variable {p : Program} {l : Launch} {e : Env} {R : Room} {s : State} {m : MethodId} {args : Array Value} {below : List Frame} {meth : Method} {c : Code} {T : State} {locs : List Loc} {cells slots kc ks : Nat} {Z : State} {a0 : Array Value} {own nm : String} {bytes : ByteArray} {ml : Nat} {ret : Option FieldType} {Q : Option Value → Heap → Prop} {h h' : Heap} {pc pc' : Nat} {ls ls' : Array Slot} {st st' rest : List Value} {a b : Addr} {ty : FieldType} {vs : List Value} {k0 : ClassId}
/-- an array, by what it holds -/
def OArr (Z : State) (h : Heap) (a : Addr) (k0 : ClassId) (ty : FieldType) (vs : List Value) : Prop := ∃ cl : Cell, Arr Z h a cl ty ∧ cl.cls = k0 ∧ cl.slots.toList = vs ∧ vs.length < 2 ^ 31
theorem OArr.lt (F : OArr Z h a k0 ty vs) : a < h.size := by obtain ⟨c, A, -⟩ := F; exact A.lt
theorem OArr.ext (F : OArr Z h a k0 ty vs) (E : Ext h h') : OArr Z h' a k0 ty vs := by obtain ⟨c, A, r⟩ := F; exact ⟨c, A.ext E, r⟩
theorem OArr.other {sl : Nat} {v : Value} (F : OArr Z h b k0 ty vs) (W : Wr h h' a sl v) (q : b ≠ a) : OArr Z h' b k0 ty vs := by obtain ⟨c, A, r⟩ := F; exact ⟨c, A.other W q, r⟩
theorem OArr.keep {ws : List Addr} (F : OArr Z h a k0 ty vs) (K : Keep h h' ws) (q : a ∉ ws) : OArr Z h' a k0 ty vs := by obtain ⟨c, A, r⟩ := F; exact ⟨c, ⟨K.2.1 a c A.1 q, A.2⟩, r⟩
theorem OArr.set {i : Nat} {v : Value} (F : OArr Z h a k0 ty vs) (W : Wr h h' a i v) : OArr Z h' a k0 ty (vs.set i v) := by
  obtain ⟨c, A, q0, q1, q2⟩ := F
  refine ⟨_, A.same W, q0, ?_, by rw [List.length_set]; exact q2⟩
  subst q1
  show (c.slots.setIfInBounds i v).toList = _
  rw [Array.toList_setIfInBounds]
theorem own_clamp {i : Nat} (hi : i < 2 ^ 31) : ¬ (Int32.ofNat i < 0) ∧ (Int32.ofNat i).toNatClampNeg = i := by
  have h1 : (Int32.ofNat i).toInt = i := by
    have : (Int32.ofNat i).toInt = Int.bmod i (2 ^ 32) := Int32.toInt_ofNat'
    rw [this, Int.bmod_def]
    omega
  refine ⟨?_, ?_⟩
  · rw [Int32.lt_iff_toInt_lt, h1]
    show ¬ (i : Int) < 0
    omega
  · show (Int32.ofNat i).toInt.toNat = i
    rw [h1]
    rfl
theorem OArr.at {i : Nat} {v : Value} (F : OArr Z h a k0 ty vs) (hv : vs[i]? = some v) : ∃ cl : Cell, Arr Z h a cl ty ∧ ¬ (Int32.ofNat i < 0 ∨ cl.slots.size ≤ (Int32.ofNat i).toNatClampNeg) ∧ cl.slots[(Int32.ofNat i).toNatClampNeg]? = some v ∧ (Int32.ofNat i).toNatClampNeg = i := by
  obtain ⟨c, A, q0, q1, q2⟩ := F
  subst q1
  have hi : i < c.slots.toList.length := (List.getElem?_eq_some_iff.mp hv).1
  obtain ⟨e1, e2⟩ := own_clamp (i := i) (by omega)
  refine ⟨c, A, ?_, ?_, e2⟩
  · rw [e2]
    intro z
    rcases z with z | z
    · exact e1 z
    · rw [Array.length_toList] at hi; omega
  · rw [e2, ← Array.getElem?_toList]; exact hv
theorem own_inn {i n : Nat} {cl : Cell} (hs : cl.slots.toList.length = n) (hn : n < 2 ^ 31) (hi : i < n) : ¬ (Int32.ofNat i < 0 ∨ cl.slots.size ≤ (Int32.ofNat i).toNatClampNeg) ∧ (Int32.ofNat i).toNatClampNeg = i := by
  obtain ⟨e1, e2⟩ := own_clamp (i := i) (by omega)
  refine ⟨?_, e2⟩
  rw [e2]
  intro z
  rcases z with z | z
  · exact e1 z
  · rw [Array.length_toList] at hs; omega
theorem o_len (F : OArr Z h a k0 ty vs) (hd : decode bytes pc = .ok (.arraylength, 1)) (hp : pc + 1 = pc')
    (k : OG p l e R s m args below meth c Z own nm bytes ml ret Q kc ks h cells slots (mkF m pc' ls (.int (Int32.ofNat vs.length) :: rest))) : OG p l e R s m args below meth c Z own nm bytes ml ret Q kc ks h cells slots (mkF m pc ls (.ref a :: rest)) := by
  intro C T locs X eT N
  obtain ⟨cl, A, q0, q1, q2⟩ := F
  subst hp q1
  refine OGoal.via (fun t kk => X.arraylength C.1 (by rw [eT]; exact A.1) (State.isArrayOf_alike C.2.1.alike A.2.1) (g := mkF m pc ls (.ref a :: rest)) rfl rfl (hb C.2.2.2.1 hd) t ?_) (k C T locs X eT N)
  rw [Array.length_toList] at kk
  exact kk
theorem o_iald {i : Nat} {j : Int32} {v : Value} (F : OArr Z h a k0 .int vs) (hj : j = Int32.ofNat i) (hv : vs[i]? = some v) (hd : decode bytes pc = .ok (.iaload, 1)) (hp : pc + 1 = pc')
    (k : OG p l e R s m args below meth c Z own nm bytes ml ret Q kc ks h cells slots (mkF m pc' ls (v :: rest))) : OG p l e R s m args below meth c Z own nm bytes ml ret Q kc ks h cells slots (mkF m pc ls (.int j :: .ref a :: rest)) := by
  intro C T locs X eT N
  subst hj hp
  obtain ⟨cl, A, e1, e2, -⟩ := F.at hv
  exact OGoal.via (fun t kk => X.iaload C.1 (by rw [eT]; exact A.1) (State.isArrayOf_alike C.2.1.alike A.2.1) A.2.2 e1 e2 (g := mkF m pc ls (.int (Int32.ofNat i) :: .ref a :: rest)) rfl rfl (hb C.2.2.2.1 hd) t kk) (k C T locs X eT N)
theorem o_bald {i : Nat} {j : Int32} {v : Value} (F : OArr Z h a k0 .byte vs) (hj : j = Int32.ofNat i) (hv : vs[i]? = some v) (hd : decode bytes pc = .ok (.baload, 1)) (hp : pc + 1 = pc')
    (k : OG p l e R s m args below meth c Z own nm bytes ml ret Q kc ks h cells slots (mkF m pc' ls (v :: rest))) : OG p l e R s m args below meth c Z own nm bytes ml ret Q kc ks h cells slots (mkF m pc ls (.int j :: .ref a :: rest)) := by
  intro C T locs X eT N
  subst hj hp
  obtain ⟨cl, A, e1, e2, -⟩ := F.at hv
  exact OGoal.via (fun t kk => X.baloadBytes C.1 (by rw [eT]; exact A.1) (State.isArrayOf_alike C.2.1.alike A.2.1) A.2.2 e1 e2 (g := mkF m pc ls (.int (Int32.ofNat i) :: .ref a :: rest)) rfl rfl (hb C.2.2.2.1 hd) t kk) (k C T locs X eT N)
theorem o_zald {i : Nat} {j : Int32} {v : Value} (F : OArr Z h a k0 .boolean vs) (hj : j = Int32.ofNat i) (hv : vs[i]? = some v) (hd : decode bytes pc = .ok (.baload, 1)) (hp : pc + 1 = pc')
    (k : OG p l e R s m args below meth c Z own nm bytes ml ret Q kc ks h cells slots (mkF m pc' ls (v :: rest))) : OG p l e R s m args below meth c Z own nm bytes ml ret Q kc ks h cells slots (mkF m pc ls (.int j :: .ref a :: rest)) := by
  intro C T locs X eT N
  subst hj hp
  obtain ⟨cl, A, e1, e2, -⟩ := F.at hv
  exact OGoal.via (fun t kk => X.baloadBooleans C.1 (by rw [eT]; exact A.1) (State.isArrayOf_alike C.2.1.alike A.2.1) A.2.2 e1 e2 (g := mkF m pc ls (.int (Int32.ofNat i) :: .ref a :: rest)) rfl rfl (hb C.2.2.2.1 hd) t kk) (k C T locs X eT N)
theorem o_aald {i : Nat} {j : Int32} {v : Value} (F : OArr Z h a k0 ty vs) (hty : ty.isReference = true) (hj : j = Int32.ofNat i) (hv : vs[i]? = some v) (hd : decode bytes pc = .ok (.aaload, 1)) (hp : pc + 1 = pc')
    (k : OG p l e R s m args below meth c Z own nm bytes ml ret Q kc ks h cells slots (mkF m pc' ls (v :: rest))) : OG p l e R s m args below meth c Z own nm bytes ml ret Q kc ks h cells slots (mkF m pc ls (.int j :: .ref a :: rest)) := by
  intro C T locs X eT N
  subst hj hp
  obtain ⟨cl, A, e1, e2, -⟩ := F.at hv
  exact OGoal.via (fun t kk => X.aaload C.1 (by rw [eT]; exact A.1) (State.isArrayOf_alike C.2.1.alike A.2.1) hty A.2.2 e1 e2 (g := mkF m pc ls (.int (Int32.ofNat i) :: .ref a :: rest)) rfl rfl (hb C.2.2.2.1 hd) t kk) (k C T locs X eT N)
theorem o_aaldJ {j : Int32} {v : Value} {cl : Cell} (A : Arr Z h a cl ty) (hty : ty.isReference = true) (hj : ¬ (j < 0 ∨ cl.slots.size ≤ j.toNatClampNeg)) (hv : cl.slots[j.toNatClampNeg]? = some v) (hd : decode bytes pc = .ok (.aaload, 1)) (hp : pc + 1 = pc')
    (k : OG p l e R s m args below meth c Z own nm bytes ml ret Q kc ks h cells slots (mkF m pc' ls (v :: rest))) : OG p l e R s m args below meth c Z own nm bytes ml ret Q kc ks h cells slots (mkF m pc ls (.int j :: .ref a :: rest)) := by
  intro C T locs X eT N
  subst hp
  exact OGoal.via (fun t kk => X.aaload C.1 (by rw [eT]; exact A.1) (State.isArrayOf_alike C.2.1.alike A.2.1) hty A.2.2 hj hv (g := mkF m pc ls (.int j :: .ref a :: rest)) rfl rfl (hb C.2.2.2.1 hd) t kk) (k C T locs X eT N)
theorem o_iast {i : Nat} {j x : Int32} (F : OArr Z h a k0 .int vs) (hj : j = Int32.ofNat i) (hi : i < vs.length) (ha : Z.heap.size ≤ a) (hd : decode bytes pc = .ok (.iastore, 1)) (hp : pc + 1 = pc')
    (k : ∀ h', Wr h h' a i (.int x) → OG p l e R s m args below meth c Z own nm bytes ml ret Q kc ks h' cells slots (mkF m pc' ls rest)) : OG p l e R s m args below meth c Z own nm bytes ml ret Q kc ks h cells slots (mkF m pc ls (.int x :: .int j :: .ref a :: rest)) := by
  intro C T locs X eT N
  subst hj hp
  obtain ⟨cl, A, q0, q1, q2⟩ := F
  obtain ⟨e1, e2⟩ := own_inn (i := i) (cl := cl) (by rw [q1]) q2 hi
  obtain ⟨T', h', X', e', W', stp⟩ := stI X C.1 C.2.1 eT A e1 (g := mkF m pc ls (.int x :: .int (Int32.ofNat i) :: .ref a :: rest)) rfl rfl (hb C.2.2.2.1 hd)
  exact OGoal.via stp (k h' (by rw [e2] at W'; exact W') C T' _ X' e' (Fr.snoc X' N ha))
theorem o_bast {i : Nat} {j x : Int32} (F : OArr Z h a k0 .byte vs) (hj : j = Int32.ofNat i) (hi : i < vs.length) (ha : Z.heap.size ≤ a) (hd : decode bytes pc = .ok (.bastore, 1)) (hp : pc + 1 = pc')
    (k : ∀ h', Wr h h' a i (.int (nar .byte x)) → OG p l e R s m args below meth c Z own nm bytes ml ret Q kc ks h' cells slots (mkF m pc' ls rest)) : OG p l e R s m args below meth c Z own nm bytes ml ret Q kc ks h cells slots (mkF m pc ls (.int x :: .int j :: .ref a :: rest)) := by
  intro C T locs X eT N
  subst hj hp
  obtain ⟨cl, A, q0, q1, q2⟩ := F
  obtain ⟨e1, e2⟩ := own_inn (i := i) (cl := cl) (by rw [q1]) q2 hi
  obtain ⟨T', h', X', e', W', stp⟩ := stB X C.1 C.2.1 eT A e1 (g := mkF m pc ls (.int x :: .int (Int32.ofNat i) :: .ref a :: rest)) rfl rfl (hb C.2.2.2.1 hd)
  exact OGoal.via stp (k h' (by rw [e2] at W'; exact W') C T' _ X' e' (Fr.snoc X' N ha))
theorem o_zast {i : Nat} {j x : Int32} (F : OArr Z h a k0 .boolean vs) (hj : j = Int32.ofNat i) (hi : i < vs.length) (ha : Z.heap.size ≤ a) (hd : decode bytes pc = .ok (.bastore, 1)) (hp : pc + 1 = pc')
    (k : ∀ h', Wr h h' a i (.int (nar .boolean x)) → OG p l e R s m args below meth c Z own nm bytes ml ret Q kc ks h' cells slots (mkF m pc' ls rest)) : OG p l e R s m args below meth c Z own nm bytes ml ret Q kc ks h cells slots (mkF m pc ls (.int x :: .int j :: .ref a :: rest)) := by
  intro C T locs X eT N
  subst hj hp
  obtain ⟨cl, A, q0, q1, q2⟩ := F
  obtain ⟨e1, e2⟩ := own_inn (i := i) (cl := cl) (by rw [q1]) q2 hi
  obtain ⟨T', h', X', e', W', stp⟩ := stZ X C.1 C.2.1 eT A e1 (g := mkF m pc ls (.int x :: .int (Int32.ofNat i) :: .ref a :: rest)) rfl rfl (hb C.2.2.2.1 hd)
  exact OGoal.via stp (k h' (by rw [e2] at W'; exact W') C T' _ X' e' (Fr.snoc X' N ha))
theorem o_aast {i : Nat} {j : Int32} {v : Value} (F : OArr Z h a k0 ty vs) (hty : ty.isReference = true) (S : Sto Z h a v) (hj : j = Int32.ofNat i) (hi : i < vs.length) (ha : Z.heap.size ≤ a) (hd : decode bytes pc = .ok (.aastore, 1)) (hp : pc + 1 = pc')
    (k : ∀ h', Wr h h' a i v → OG p l e R s m args below meth c Z own nm bytes ml ret Q kc ks h' cells slots (mkF m pc' ls rest)) : OG p l e R s m args below meth c Z own nm bytes ml ret Q kc ks h cells slots (mkF m pc ls (v :: .int j :: .ref a :: rest)) := by
  intro C T locs X eT N
  subst hj hp
  obtain ⟨cl, A, q0, q1, q2⟩ := F
  obtain ⟨e1, e2⟩ := own_inn (i := i) (cl := cl) (by rw [q1]) q2 hi
  obtain ⟨T', h', X', e', W', stp⟩ := stR X C.1 C.2.1 eT A e1 hty S (g := mkF m pc ls (v :: .int (Int32.ofNat i) :: .ref a :: rest)) rfl rfl (hb C.2.2.2.1 hd)
  exact OGoal.via stp (k h' (by rw [e2] at W'; exact W') C T' _ X' e' (Fr.snoc X' N ha))
theorem own_newA {cA : ClassId} {n : Nat} (hn : n < 2 ^ 31) (A : Arr Z h a (newA cA ty (Int32.ofNat n)) ty) : OArr Z h a cA ty (List.replicate n (defaultValue ty)) := by
  refine ⟨_, A, rfl, ?_, by rw [List.length_replicate]; exact hn⟩
  show (Array.replicate (Int32.ofNat n).toNatClampNeg (defaultValue ty)).toList = _
  rw [(own_clamp hn).2, Array.toList_replicate]
theorem o_newP {aty : ArrayType} {n cap : Nat} {j : Int32} (w : (Cond.arrayClass (newarray.typeOf aty)).before a0 Z = true) (hj : j = Int32.ofNat n) (hn : n ≤ cap) (hcap : cap < 60000000) (hd : decode bytes pc = .ok (.newarray aty, 2)) (hc : cells + 1 ≤ R.cells) (hl : slots + cap ≤ R.slots) (hp : pc + 2 = pc')
    (k : ∀ h' a k0, a = h.size → Z.heap.size ≤ a → Ext h h' → OArr Z h' a k0 (newarray.typeOf aty) (List.replicate n (defaultValue (newarray.typeOf aty))) → OG p l e R s m args below meth c Z own nm bytes ml ret Q kc ks h' (cells + 1) (slots + cap) (mkF m pc' ls (.ref a :: rest))) : OG p l e R s m args below meth c Z own nm bytes ml ret Q kc ks h cells slots (mkF m pc ls (.int j :: rest)) := by
  intro C T locs X eT N
  subst hj hp
  have hE : Ext Z.heap h := eT ▸ own_ext X C.2.2.2.2.2.2.2.2 N
  obtain ⟨e1, e2⟩ := own_clamp (i := n) (by omega)
  obtain ⟨T', h', cA, X', e', E', A', stp⟩ := newP X C.1 C.2.1 w eT (g := mkF m pc ls (.int (Int32.ofNat n) :: rest)) rfl (hb C.2.2.2.1 hd) rfl e1 (cap := cap) (by rw [e2]; exact hn) (by omega) hc hl
  exact OGoal.via stp (k h' h.size cA rfl hE.1 E' (own_newA (by omega) A') C T' _ X' e' N)
theorem o_newR {C0 : String} {index n cap : Nat} {j : Int32} (w1 : (Cond.classLink own index C0).before a0 Z = true) (w2 : (Cond.arrayOver (.object C0)).before a0 Z = true) (hj : j = Int32.ofNat n) (hn : n ≤ cap) (hcap : cap < 60000000) (hd : decode bytes pc = .ok (.anewarray index, 3)) (hc : cells + 1 ≤ R.cells) (hl : slots + cap ≤ R.slots) (hp : pc + 3 = pc')
    (k : ∀ h' a k0, a = h.size → Z.heap.size ≤ a → Ext h h' → OArr Z h' a k0 (.object C0) (List.replicate n .null) → Ovr Z k0 C0 → OG p l e R s m args below meth c Z own nm bytes ml ret Q kc ks h' (cells + 1) (slots + cap) (mkF m pc' ls (.ref a :: rest))) : OG p l e R s m args below meth c Z own nm bytes ml ret Q kc ks h cells slots (mkF m pc ls (.int j :: rest)) := by
  intro C T locs X eT N
  subst hj hp
  have hE : Ext Z.heap h := eT ▸ own_ext X C.2.2.2.2.2.2.2.2 N
  obtain ⟨e1, e2⟩ := own_clamp (i := n) (by omega)
  obtain ⟨T', h', cA, X', e', E', A', O', stp⟩ := newR X C.1 C.2.1 C.2.2.1 w1 w2 eT (g := mkF m pc ls (.int (Int32.ofNat n) :: rest)) rfl (hb C.2.2.2.1 hd) rfl e1 (cap := cap) (by rw [e2]; exact hn) (by omega) hc hl
  exact OGoal.via stp (k h' h.size cA rfl hE.1 E' (own_newA (by omega) A') O' C T' _ X' e' N)
theorem own_sto {y : Addr} {C0 : String} (F : OArr Z h a k0 ty vs) (O : Ovr Z k0 C0) (I : Ins Z h y C0 true) : Sto Z h a (.ref y) := by
  obtain ⟨cl, A, q0, q1, q2⟩ := F
  exact Sto.ofV A q0 O I
end ArrKit
section ObjKit
variable {p : Program} {l : Launch} {e : Env} {R : Room} {s : State} {m : MethodId} {args : Array Value} {below : List Frame} {meth : Method} {c : Code} {T : State} {locs : List Loc} {cells slots kc ks : Nat} {Z : State} {a0 : Array Value} {own nm : String} {bytes : ByteArray} {ml : Nat} {ret : Option FieldType} {Q : Option Value → Heap → Prop} {h h' : Heap} {pc pc' : Nat} {ls ls' : Array Slot} {st st' rest : List Value} {a b : Addr}
theorem o_instY {K : String} {index : Nat} (w : (Cond.classLink own index K).before a0 Z = true) (F : Ins Z h a K true) (hd : decode bytes pc = .ok (.instanceof index, 3)) (hp : pc + 3 = pc')
    (k : OG p l e R s m args below meth c Z own nm bytes ml ret Q kc ks h cells slots (mkF m pc' ls (.int 1 :: rest))) : OG p l e R s m args below meth c Z own nm bytes ml ret Q kc ks h cells slots (mkF m pc ls (.ref a :: rest)) := by
  intro C T locs X eT N
  obtain ⟨T', X', e', stp⟩ := instY X C.1 C.2.1 C.2.2.1 w eT F (g := mkF m pc ls (.ref a :: rest)) rfl rfl (hb C.2.2.2.1 hd)
  subst hp
  exact OGoal.via stp (k C T' locs X' e' N)
theorem o_instNo {K C0 : String} {index : Nat} (w : (Cond.classLink own index K).before a0 Z = true) (E : Exa Z h a C0) (F : ∃ c t, Z.vm.findClass C0 = some c ∧ Z.vm.findClass K = some t ∧ Z.vm.assignable c t = false) (hd : decode bytes pc = .ok (.instanceof index, 3)) (hp : pc + 3 = pc')
    (k : OG p l e R s m args below meth c Z own nm bytes ml ret Q kc ks h cells slots (mkF m pc' ls (.int 0 :: rest))) : OG p l e R s m args below meth c Z own nm bytes ml ret Q kc ks h cells slots (mkF m pc ls (.ref a :: rest)) := by
  intro C T locs X eT N
  obtain ⟨T', X', e', stp⟩ := instNo X C.1 C.2.1 C.2.2.1 w eT E F (g := mkF m pc ls (.ref a :: rest)) rfl rfl (hb C.2.2.2.1 hd)
  subst hp
  exact OGoal.via stp (k C T' locs X' e' N)
theorem o_instNull {index : Nat} (hd : decode bytes pc = .ok (.instanceof index, 3)) (hp : pc + 3 = pc')
    (k : OG p l e R s m args below meth c Z own nm bytes ml ret Q kc ks h cells slots (mkF m pc' ls (.int 0 :: rest))) : OG p l e R s m args below meth c Z own nm bytes ml ret Q kc ks h cells slots (mkF m pc ls (.null :: rest)) := by
  intro C T locs X eT N
  subst hp
  exact OGoal.via (X.instanceofNull C.1 (g := mkF m pc ls (.null :: rest)) rfl rfl (hb C.2.2.2.1 hd)) (k C T locs X eT N)
theorem o_cast {K : String} {index : Nat} (w : (Cond.classLink own index K).before a0 Z = true) (F : Ins Z h a K true) (hd : decode bytes pc = .ok (.checkcast index, 3)) (hp : pc + 3 = pc')
    (k : OG p l e R s m args below meth c Z own nm bytes ml ret Q kc ks h cells slots (mkF m pc' ls (.ref a :: rest))) : OG p l e R s m args below meth c Z own nm bytes ml ret Q kc ks h cells slots (mkF m pc ls (.ref a :: rest)) := by
  intro C T locs X eT N
  obtain ⟨T', X', e', stp⟩ := castY X C.1 C.2.1 C.2.2.1 w eT F (g := mkF m pc ls (.ref a :: rest)) rfl rfl (hb C.2.2.2.1 hd)
  subst hp
  exact OGoal.via stp (k C T' locs X' e' N)
theorem own_root {O K : String} {n : Nat} (w : (Cond.noSuperclass O).before a0 Z = true) (wi : (Cond.instantiable K n).before a0 Z = true) (hn : O ≠ K) : NS Z O K := by
  obtain ⟨c, k, h1, h2, h3, -, -⟩ := Cond.noSuperclass_spec w
  obtain ⟨t, k', g1, -⟩ := Cond.instantiable_spec wi
  have ne := ids_ne h1 g1 hn
  refine ⟨c, t, h1, g1, fun fuel => ?_⟩
  cases fuel with
  | zero => rfl
  | succ f => simp [Vm.isSubclassAux, ne, h2, h3]
theorem own_no {C0 S K : String} {n : Nat} (w : (Cond.superclass C0 S).before a0 Z = true) (wi : (Cond.instantiable K n).before a0 Z = true) (q : NS Z C0 K) (hn : C0 ≠ K) : ∃ c t, Z.vm.findClass C0 = some c ∧ Z.vm.findClass K = some t ∧ Z.vm.assignable c t = false := by
  obtain ⟨c, t, h0, g0, n3⟩ := q
  obtain ⟨p, k, kp, h1, h2, h3, h4, h5, -, h7⟩ := Cond.superclass_spec h0 w
  obtain ⟨t', k', g1, g2, g3, g4, -⟩ := Cond.instantiable_spec wi
  cases g0.symm.trans g1
  have ne := ids_ne h0 g0 hn
  have gi : k'.isInterface = false := (Bool.or_eq_false_iff.mp g4).1
  refine ⟨c, t, h0, g0, ?_⟩
  show Z.vm.assignableAux (255 + 1) c t = false
  simp [Vm.assignableAux, ne, h2, g2, h5, g3, gi, Vm.isSubclass, n3]
end ObjKit
section JdkKit
variable {p : Program} {l : Launch} {e : Env} {R : Room} {s : State} {m : MethodId} {args : Array Value} {below : List Frame} {meth : Method} {c : Code} {T : State} {locs : List Loc} {cells slots kc ks : Nat} {Z : State} {a0 : Array Value} {own nm : String} {bytes : ByteArray} {ml : Nat} {ret : Option FieldType} {Q : Option Value → Heap → Prop} {h h' : Heap} {pc pc' : Nat} {ls ls' : Array Slot} {st st' rest : List Value} {a b : Addr} {ty : FieldType} {vs : List Value} {k0 : ClassId}
theorem o_getFV {R0 O n d host : String} {index : Nat} {v : Value} (w : (Cond.fieldLink own index R0 n d).before a0 Z = true ∨ (Cond.fieldLinkNest own index R0 n d host).before a0 Z = true) (via : (Cond.sameField R0 O n d).before a0 Z = true) (F : Fld Z h a O n d v) (hd : decode bytes pc = .ok (.getfield index, 3)) (hp : pc + 3 = pc')
    (k : OG p l e R s m args below meth c Z own nm bytes ml ret Q kc ks h cells slots (mkF m pc' ls (v :: rest))) : OG p l e R s m args below meth c Z own nm bytes ml ret Q kc ks h cells slots (mkF m pc ls (.ref a :: rest)) := by
  intro C T locs X eT N
  obtain ⟨T', X', e', stp⟩ := getF X C.1 C.2.1 C.2.2.1 w (Via.of via) eT F (g := mkF m pc ls (.ref a :: rest)) rfl rfl (hb C.2.2.2.1 hd)
  subst hp
  exact OGoal.via stp (k C T' locs X' e' N)
theorem o_putFV {R0 O n d host C0 : String} {index kk : Nat} {v old : Value} (w : (Cond.fieldLink own index R0 n d).before a0 Z = true ∨ (Cond.fieldLinkNest own index R0 n d host).before a0 Z = true) (via : (Cond.sameField R0 O n d).before a0 Z = true) (F : Fld Z h a O n d old) (E : Exa Z h a C0)
    (L : (Cond.lays C0 O n d).before a0 Z = true) (wi : (Cond.instantiable C0 kk).before a0 Z = true) (hty : parseFieldDescriptor d = some ty) (hn : narrow ty v = v) (hf : fits ty v = true) (ha : Z.heap.size ≤ a)
    (hd : decode bytes pc = .ok (.putfield index, 3)) (hp : pc + 3 = pc')
    (k : ∀ h', Wr h h' a (Jvm.RoadKit.slotOf Z O n d) v → OG p l e R s m args below meth c Z own nm bytes ml ret Q kc ks h' cells slots (mkF m pc' ls rest)) : OG p l e R s m args below meth c Z own nm bytes ml ret Q kc ks h cells slots (mkF m pc ls (v :: .ref a :: rest)) := by
  intro C T locs X eT N
  obtain ⟨T', h', X', e', W', stp⟩ := putF X C.1 C.2.1 C.2.2.1 w (Via.of via) eT F E (Or.inl L) wi hty hn hf (g := mkF m pc ls (v :: .ref a :: rest)) rfl rfl (hb C.2.2.2.1 hd)
  subst hp
  exact OGoal.via stp (k h' W' C T' _ X' e' (Fr.snoc X' N ha))
theorem own_wide (C : OCtx p s m meth c Z own nm bytes ml ret) (X : Stand p l e R s m args below meth c T locs cells slots) : Z.Warmed39 T.vm := wtrans C.2.1 X.warmed
/-- a field whose entry is resolved already -/
theorem o_getFR {O n d : String} {index : Nat} {v : Value} (w : (Cond.fieldRef own index O n d).before a0 Z = true) (F : Fld Z h a O n d v) (hd : decode bytes pc = .ok (.getfield index, 3)) (hp : pc + 3 = pc')
    (k : OG p l e R s m args below meth c Z own nm bytes ml ret Q kc ks h cells slots (mkF m pc' ls (v :: rest))) : OG p l e R s m args below meth c Z own nm bytes ml ret Q kc ks h cells slots (mkF m pc ls (.ref a :: rest)) := by
  intro C T locs X eT N
  have hZ := own_wide C X
  have w' := Cond.fieldRef_warmed39 hZ w
  have hcur : (Z.setVm T.vm).vm.findClass own = some m.cls := by
    show T.vm.findClass own = some m.cls
    rw [X.warmed.alike.findClass]; exact C.2.2.1
  obtain ⟨cf, k1, i1, f1, q1, q2⟩ := Cond.fieldRef_spec hcur w'
  obtain ⟨cell, cf', k', i', f', h1, h2, h3, h4, -, -, h7⟩ := F
  obtain ⟨k2, hi, -⟩ := State.fieldFound?_setVm (s := Z) hZ.alike h2
  cases hi.symm.trans q1
  subst hp eT
  refine OGoal.via (fun t kk => ?_) (k C T locs X rfl N)
  have hdc := hb C.2.2.2.1 hd
  have hx := C.1
  show Steps p.tables e below (T.setTop { method := m, pc := pc, locals := ls, stack := .ref a :: rest, locked := none }) _
  jvm_step X.here [hx, hdc, getfield.wp_ready (e := e) (s := T) (f := mkF m pc ls (.ref a :: rest)) X.here.top q2 h3 rfl h1 h4 h7]
  exact kk
theorem own_ref (C : OCtx p s m meth c Z own nm bytes ml ret) (X : Stand p l e R s m args below meth c T locs cells slots) {index : Nat} {y : MethodName} {mk : MethodId} (hn : s.methodNamed? y = some mk)
    (hy : y.cls ≠ "java/lang/invoke/MethodHandle" ∧ y.cls ≠ "java/lang/invoke/VarHandle") (w : (Cond.methodRef own index y).before a0 Z = true) : T.vm.methodReady m.cls index mk ∧ namesResolved T.vm m.cls index mk.cls := by
  have hZ := own_wide C X
  have hnZ : Z.methodNamed? y = some mk := by rw [← State.methodNamed?_setVm C.2.1.alike (s := Z)]; exact hn
  have w' := Cond.methodRef_warmed39 hZ hnZ hy w
  have hcur : (Z.setVm T.vm).vm.findClass own = some m.cls := by
    show T.vm.findClass own = some m.cls
    rw [X.warmed.alike.findClass]; exact C.2.2.1
  obtain ⟨m', c', q1, q2, q3, q4⟩ := Cond.methodRef_named e hcur w'
  have hnT : (Z.setVm T.vm).methodNamed? y = some mk := by rw [State.methodNamed?_setVm hZ.alike (s := Z)]; exact hnZ
  have e1 : m' = mk := Option.some.inj (q1.symm.trans (State.methodFound?_of_named hnT hy))
  subst e1
  have e2 : c' = m'.cls := Option.some.inj (q3.symm.trans (findClass_of_methodNamed hnT))
  subst e2
  exact ⟨q2, q4⟩
/-- a constructor whose entry is resolved already -/
theorem o_callIR {index yl W : Nat} {y : MethodName} {yb : ByteArray} {rm : Room} {yQ : Option Value → Heap → Prop} {argsL : List Value} {ps : List FieldType} {yr' : Option FieldType} (hyn : y.name = "<init>") (w1 : (Cond.methodRef own index y).before a0 Z = true) (w4 : (Cond.instanceMethod y).before a0 Z = true) (w5 : (Cond.code y yb yl none).before a0 Z = true) (w6 : (Cond.initialized y.cls).before a0 Z = true)
    (hy : y.cls ≠ "java/lang/invoke/MethodHandle" ∧ y.cls ≠ "java/lang/invoke/VarHandle") (K : Ext Z.heap h → OCtr l Z y yb yl none rm (.ref a :: argsL).toArray h yQ) (hd : decode bytes pc = .ok (.invokespecial index, 3))
    (hpd : parseMethodDescriptor y.desc = some ⟨ps, yr'⟩) (hpl : argsL.length = ps.length) (hsz : ls.size = ml) (hst : st = argsL.reverse ++ .ref a :: rest) (hW : (rest.map fun v => v.category).sum ≤ W)
    (hf : rm.frames + 1 ≤ R.frames) (hl : W + (yl + 11) + rm.locals ≤ R.locals) (hcc : cells + rm.cells ≤ R.cells) (hss : slots + rm.slots ≤ R.slots) (hp : pc + 3 = pc')
    (k : ∀ v h', yQ v h' → h.size ≤ h'.size → OG p l e R s m args below meth c Z own nm bytes ml ret Q kc ks h' (cells + rm.cells) (slots + rm.slots) (mkF m pc' ls (v.toList ++ rest))) : OG p l e R s m args below meth c Z own nm bytes ml ret Q kc ks h cells slots (mkF m pc ls st) := by
  intro C T locs X eT N
  have hE : Ext Z.heap h := eT ▸ own_ext X C.2.2.2.2.2.2.2.2 N
  have w4' : (Cond.instanceMethod y).before args s = true := mvT C.2.1 w4
  have w5' : (Cond.code y yb yl none).before args s = true := mvT C.2.1 w5
  obtain ⟨mk, methM, hnamed, hmethM, hstM, habM⟩ := Cond.instanceMethod_spec w4'
  obtain ⟨methM', cM, hmethM', -, -, -, -, -, -, hsigM⟩ := Cond.code_spec hnamed w5'
  cases hmethM.symm.trans hmethM'
  obtain ⟨hready, hnames⟩ := own_ref C X hnamed hy w1
  obtain ⟨kP, hkP, -⟩ := className_of_methodNamed hnamed
  obtain ⟨hnameM, hdescM⟩ := name_of_methodNamed hnamed hmethM
  have alike := X.warmed.alike
  obtain ⟨kP2, hkP2, -⟩ := alike.2.2 _ _ hkP
  have hm2 : T.vm.method? mk = some methM := by rw [alike.method?]; exact hmethM
  have hfound : lookupSpecial T.vm mk.cls "<init>" methM.desc = .method mk := by
    rw [alike.lookupSpecial, hdescM, ← hyn]; exact lookupSpecial_of_named hnamed hmethM hstM
  have hx := C.1
  have hdc := hb C.2.2.2.1 hd
  have stp : ∀ target, (∀ acts, Steps p.tables e below (doInvoke e (T.setTop { mkF m pc ls st with stack := rest }) acts mk (.ref a :: argsL).toArray).1 target) → Steps p.tables e below (T.setTop (mkF m pc ls st)) target := by
    intro target hrest
    show Steps p.tables e below (T.setTop { method := m, pc := pc, locals := ls, stack := st, locked := none }) _
    jvm_step X.here [hx, hdc, invokespecial.wp_init (e := e) (s := T) (k := kP2) (meth := methM) (m := mk) (a := a) (args := argsL) (rest := rest) (f := mkF m pc ls st) X.here.top hnames hready hkP2 hm2 (by rw [hnameM]; exact hyn) hstM habM hfound (lenOf hpd hpl _ hsigM) hst]
    exact hrest
  have hK : Back l R p e below s args y 3 W _ _ := backOf (W := W) (Q := fun v h2 L => (yQ v h2 ∧ h.size ≤ h2.size) ∧ Fr Z.heap.size L) (K hE []) C.2.1 w5 w6 hf hl
  obtain ⟨v, ⟨T', L', k', n'⟩, X', ⟨L, ⟨hQ, hN⟩, e1, e2, e3⟩, stp2⟩ := hK m meth c ⟨T, locs, cells, slots⟩ { mkF m pc ls st with stack := rest } (.invokespecial index) mk (.ref a :: argsL).toArray X rfl (hsz.trans C.2.2.2.2.1.symm) hdc (by show 2 * 0 + _ ≤ _; rw [Nat.mul_zero, Nat.zero_add]; exact hW) (X.named hnamed) ⟨rfl, eT, hcc, hss⟩
  dsimp only [Pt.U, Pt.locs, Pt.cells, Pt.slots] at X' e1 e2 e3 hQ stp2
  subst e1 e2 e3 hp
  exact OGoal.via (fun t kk => (stp _ fun acts => by rw [doInvoke_state]; exact Steps.refl _).trans (stp2.trans kk)) (k v T'.heap hQ.1 hQ.2 C T' _ X' rfl (Fr.app N hN))
/-- a private method, its entry resolved already -/
theorem o_callPR {index yl W : Nat} {y : MethodName} {yb : ByteArray} {yr : Option FieldType} {rm : Room} {yQ : Option Value → Heap → Prop} {argsL : List Value} {ps : List FieldType} {yr' : Option FieldType} {nn : Nat} (w1 : (Cond.methodRef own index y).before a0 Z = true) (w4 : (Cond.instanceMethod y).before a0 Z = true) (wp : (Cond.privateMethod y).before a0 Z = true) (wi : (Cond.instantiable y.cls nn).before a0 Z = true) (w5 : (Cond.code y yb yl yr).before a0 Z = true) (w6 : (Cond.initialized y.cls).before a0 Z = true)
    (hy : y.cls ≠ "java/lang/invoke/MethodHandle" ∧ y.cls ≠ "java/lang/invoke/VarHandle") {C0 : String} (E : Exa Z h a C0) (K : Ext Z.heap h → OCtr l Z y yb yl yr rm (.ref a :: argsL).toArray h yQ) (hd : decode bytes pc = .ok (.invokevirtual index, 3))
    (hpd : parseMethodDescriptor y.desc = some ⟨ps, yr'⟩) (hpl : argsL.length = ps.length) (hsz : ls.size = ml) (hst : st = argsL.reverse ++ .ref a :: rest) (hW : (rest.map fun v => v.category).sum ≤ W)
    (hf : rm.frames + 1 ≤ R.frames) (hl : W + (yl + 11) + rm.locals ≤ R.locals) (hcc : cells + rm.cells ≤ R.cells) (hss : slots + rm.slots ≤ R.slots) (hp : pc + 3 = pc')
    (k : ∀ v h', yQ v h' → h.size ≤ h'.size → OG p l e R s m args below meth c Z own nm bytes ml ret Q kc ks h' (cells + rm.cells) (slots + rm.slots) (mkF m pc' ls (v.toList ++ rest))) : OG p l e R s m args below meth c Z own nm bytes ml ret Q kc ks h cells slots (mkF m pc ls st) := by
  intro C T locs X eT N
  have hE : Ext Z.heap h := eT ▸ own_ext X C.2.2.2.2.2.2.2.2 N
  have w4' : (Cond.instanceMethod y).before args s = true := mvT C.2.1 w4
  have w5' : (Cond.code y yb yl yr).before args s = true := mvT C.2.1 w5
  have wi' : (Cond.instantiable y.cls nn).before args s = true := mvT C.2.1 wi
  have hpriv : s.PrivateAt y := Cond.privateMethod_at (args := args) (mvT C.2.1 wp)
  obtain ⟨mk, methM, hnamed, hmethM, hstM, habM⟩ := Cond.instanceMethod_spec w4'
  obtain ⟨methM', cM, hmethM', -, -, -, -, -, -, hsigM⟩ := Cond.code_spec hnamed w5'
  cases hmethM.symm.trans hmethM'
  obtain ⟨cI, kI, i1, i2, -, i4, -⟩ := Cond.instantiable_spec wi'
  have hcI : cI = mk.cls := Option.some.inj (i1.symm.trans (findClass_of_methodNamed hnamed))
  subst hcI
  have hni : kI.isInterface = false := (Bool.or_eq_false_iff.mp i4).1
  obtain ⟨cell, kc0, c1, -, -, c4, -⟩ := E
  have hcell : T.heap[a]? = some cell := by rw [eT]; exact c1
  have hobj : ∀ q, cell.vm ≠ .statics q := fun q z => by rw [z] at c4; cases c4
  have hx := C.1
  have hdc := hb C.2.2.2.1 hd
  obtain ⟨hready, hnames⟩ := own_ref C X hnamed hy w1
  obtain ⟨kP, hkP, hnameP⟩ := className_of_methodNamed hnamed
  cases i2.symm.trans hkP
  have alike := X.warmed.alike
  obtain ⟨kP2, hkP2, eP2⟩ := alike.2.2 _ _ hkP
  have hm2 : T.vm.method? mk = some methM := by rw [alike.method?]; exact hmethM
  have hni2 : kP2.isInterface = false := by rw [eP2]; exact hni
  have hpoly : signaturePolymorphic kP2 methM = false := by
    have : kP2.name = y.cls := by rw [eP2]; exact hnameP
    simp [signaturePolymorphic, this, hy.1, hy.2]
  have hsel : selectMethod e.platform T.vm cell.cls mk = .method mk := selectMethod_private hm2 (hpriv mk methM hnamed hmethM)
  have stp : ∀ target, (∀ acts, Steps p.tables e below (doInvoke e (T.setTop { mkF m pc ls st with stack := rest }) acts mk (.ref a :: argsL).toArray).1 target) → Steps p.tables e below (T.setTop (mkF m pc ls st)) target := by
    intro target hrest
    show Steps p.tables e below (T.setTop { method := m, pc := pc, locals := ls, stack := st, locked := none }) _
    jvm_step X.here [hx, hdc, invokevirtual.wp_named (e := e) (s := T) (f := mkF m pc ls st) (a := a) (args := argsL) (rest := rest) (cell := cell) X.here.top hnames hkP2 hni2 hready hkP2 hm2 hpoly hstM (lenOf hpd hpl _ hsigM) hst hcell hobj hsel hm2 habM hkP2 hni2]
    exact hrest
  have hK : Back l R p e below s args y 3 W _ _ := backOf (W := W) (Q := fun v h2 L => (yQ v h2 ∧ h.size ≤ h2.size) ∧ Fr Z.heap.size L) (K hE []) C.2.1 w5 w6 hf hl
  obtain ⟨v, ⟨T', L', k', n'⟩, X', ⟨L, ⟨hQ, hN⟩, e1, e2, e3⟩, stp2⟩ := hK m meth c ⟨T, locs, cells, slots⟩ { mkF m pc ls st with stack := rest } (.invokevirtual index) mk (.ref a :: argsL).toArray X rfl (hsz.trans C.2.2.2.2.1.symm) hdc (by show 2 * 0 + _ ≤ _; rw [Nat.mul_zero, Nat.zero_add]; exact hW) (X.named hnamed) ⟨rfl, eT, hcc, hss⟩
  dsimp only [Pt.U, Pt.locs, Pt.cells, Pt.slots] at X' e1 e2 e3 hQ stp2
  subst e1 e2 e3 hp
  exact OGoal.via (fun t kk => (stp _ fun acts => by rw [doInvoke_state]; exact Steps.refl _).trans (stp2.trans kk)) (k v T'.heap hQ.1 hQ.2 C T' _ X' rfl (Fr.app N hN))
/-- a private method -/
theorem o_callP {index yl W : Nat} {y : MethodName} {yb : ByteArray} {yr : Option FieldType} {rm : Room} {yQ : Option Value → Heap → Prop} {argsL : List Value} {ps : List FieldType} {yr' : Option FieldType} {nn : Nat} (w1 : (Cond.methodLink own index y).before a0 Z = true) (w4 : (Cond.instanceMethod y).before a0 Z = true) (wp : (Cond.privateMethod y).before a0 Z = true) (wi : (Cond.instantiable y.cls nn).before a0 Z = true) (w5 : (Cond.code y yb yl yr).before a0 Z = true) (w6 : (Cond.initialized y.cls).before a0 Z = true)
    (hy : y.cls ≠ "java/lang/invoke/MethodHandle" ∧ y.cls ≠ "java/lang/invoke/VarHandle") {C0 : String} (E : Exa Z h a C0) (K : Ext Z.heap h → OCtr l Z y yb yl yr rm (.ref a :: argsL).toArray h yQ) (hd : decode bytes pc = .ok (.invokevirtual index, 3))
    (hpd : parseMethodDescriptor y.desc = some ⟨ps, yr'⟩) (hpl : argsL.length = ps.length) (hsz : ls.size = ml) (hst : st = argsL.reverse ++ .ref a :: rest) (hW : (rest.map fun v => v.category).sum ≤ W)
    (hf : rm.frames + 1 ≤ R.frames) (hl : W + (yl + 11) + rm.locals ≤ R.locals) (hcc : cells + rm.cells ≤ R.cells) (hss : slots + rm.slots ≤ R.slots) (hp : pc + 3 = pc')
    (k : ∀ v h', yQ v h' → h.size ≤ h'.size → OG p l e R s m args below meth c Z own nm bytes ml ret Q kc ks h' (cells + rm.cells) (slots + rm.slots) (mkF m pc' ls (v.toList ++ rest))) : OG p l e R s m args below meth c Z own nm bytes ml ret Q kc ks h cells slots (mkF m pc ls st) := by
  intro C T locs X eT N
  have hE : Ext Z.heap h := eT ▸ own_ext X C.2.2.2.2.2.2.2.2 N
  have w4' : (Cond.instanceMethod y).before args s = true := mvT C.2.1 w4
  have w5' : (Cond.code y yb yl yr).before args s = true := mvT C.2.1 w5
  have wi' : (Cond.instantiable y.cls nn).before args s = true := mvT C.2.1 wi
  have hpriv : s.PrivateAt y := Cond.privateMethod_at (args := args) (mvT C.2.1 wp)
  obtain ⟨mk, methM, hnamed, hmethM, hstM, habM⟩ := Cond.instanceMethod_spec w4'
  obtain ⟨methM', cM, hmethM', -, -, -, -, -, -, hsigM⟩ := Cond.code_spec hnamed w5'
  cases hmethM.symm.trans hmethM'
  obtain ⟨cI, kI, i1, i2, -, i4, -⟩ := Cond.instantiable_spec wi'
  have hcI : cI = mk.cls := Option.some.inj (i1.symm.trans (findClass_of_methodNamed hnamed))
  subst hcI
  have hni : kI.isInterface = false := (Bool.or_eq_false_iff.mp i4).1
  obtain ⟨cell, kc0, c1, -, -, c4, -⟩ := E
  have hcell : T.heap[a]? = some cell := by rw [eT]; exact c1
  have hobj : ∀ q, cell.vm ≠ .statics q := fun q z => by rw [z] at c4; cases c4
  have hx := C.1
  have hdc := hb C.2.2.2.1 hd
  have hsel : selectMethod e.platform s.vm cell.cls mk = .method mk := selectMethod_private hmethM (hpriv mk methM hnamed hmethM)
  obtain ⟨vm₁, X₁, hstep₁⟩ := X.invokevirtual C.1 C.2.2.1 (mvT C.2.1 w1) hnamed hmethM hstM i2 hni hy (a := a) (cell := cell) hcell hobj hsel hmethM habM i2 hni (g := mkF m pc ls st) rfl (argsL := argsL) (rest := rest) (lenOf hpd hpl _ hsigM) hst hdc
  have hK : Back l R p e below s args y 3 W _ _ := backOf (W := W) (Q := fun v h2 L => (yQ v h2 ∧ h.size ≤ h2.size) ∧ Fr Z.heap.size L) (K hE []) C.2.1 w5 w6 hf hl
  obtain ⟨v, ⟨T', L', k', n'⟩, X', ⟨L, ⟨hQ, hN⟩, e1, e2, e3⟩, stp2⟩ := hK m meth c ⟨T.setVm vm₁, locs, cells, slots⟩ { mkF m pc ls st with stack := rest } (.invokevirtual index) mk (.ref a :: argsL).toArray X₁ rfl (hsz.trans C.2.2.2.2.1.symm) hdc (by show 2 * 0 + _ ≤ _; rw [Nat.mul_zero, Nat.zero_add]; exact hW) (X₁.named hnamed) ⟨rfl, eT, hcc, hss⟩
  dsimp only [Pt.U, Pt.locs, Pt.cells, Pt.slots] at X' e1 e2 e3 hQ stp2
  subst e1 e2 e3 hp
  exact OGoal.via (fun t kk => (hstep₁ _ fun acts => by rw [doInvoke_state]; exact Steps.refl _).trans (stp2.trans kk)) (k v T'.heap hQ.1 hQ.2 C T' _ X' rfl (Fr.app N hN))
/-- a call through an interface -/
theorem o_callF {index yl W : Nat} {y : MethodName} {yb : ByteArray} {yr : Option FieldType} {rm : Room} {yQ : Option Value → Heap → Prop} {argsL : List Value} {ps : List FieldType} {yr' : Option FieldType} {count : Nat} {C0 : String} {xi : MethodName} (w1 : (Cond.methodLink own index xi).before a0 Z = true) (w2 : (Cond.declares xi).before a0 Z = true) (wf : (Cond.interfaceMethod xi.cls xi.cls xi.name xi.desc).before a0 Z = true) (hkf : ((Cond.interfaceMethod xi.cls xi.cls xi.name xi.desc).onTables && (Cond.interfaceMethod xi.cls xi.cls xi.name xi.desc).keepsFace) = true) (w3 : (Cond.selects C0 xi y).before a0 Z = true) (w4 : (Cond.instanceMethod y).before a0 Z = true)
    (wp : (Cond.publicMethod y).before a0 Z = true) (wu : (Cond.unhidden C0 xi.name xi.desc).before a0 Z = true) (wc : (Cond.castable C0 xi.cls).before a0 Z = true) (w5 : (Cond.code y yb yl yr).before a0 Z = true) (w6 : (Cond.initialized y.cls).before a0 Z = true)
    (hy : xi.cls ≠ "java/lang/invoke/MethodHandle" ∧ xi.cls ≠ "java/lang/invoke/VarHandle") (E : Exa Z h a C0) (K : Ext Z.heap h → OCtr l Z y yb yl yr rm (.ref a :: argsL).toArray h yQ) (hd : decode bytes pc = .ok (.invokeinterface index count, 5))
    (hpd : parseMethodDescriptor xi.desc = some ⟨ps, yr'⟩) (hpl : argsL.length = ps.length) (hsz : ls.size = ml) (hst : st = argsL.reverse ++ .ref a :: rest) (hW : (rest.map fun v => v.category).sum ≤ W)
    (hf : rm.frames + 1 ≤ R.frames) (hl : W + (yl + 11) + rm.locals ≤ R.locals) (hcc : cells + rm.cells ≤ R.cells) (hss : slots + rm.slots ≤ R.slots) (hp : pc + 5 = pc')
    (k : ∀ v h', yQ v h' → h.size ≤ h'.size → OG p l e R s m args below meth c Z own nm bytes ml ret Q kc ks h' (cells + rm.cells) (slots + rm.slots) (mkF m pc' ls (v.toList ++ rest))) : OG p l e R s m args below meth c Z own nm bytes ml ret Q kc ks h cells slots (mkF m pc ls st) := by
  intro C T locs X eT N
  have hE : Ext Z.heap h := eT ▸ own_ext X C.2.2.2.2.2.2.2.2 N
  obtain ⟨cq, kq, qa, qb, qc⟩ := isOf C.2.1 eT E
  obtain ⟨v, vm₁, ⟨T', L', k', n'⟩, -, X', ⟨L, ⟨hQ, hN⟩, e1, e2, e3⟩, stp⟩ := X.interfaceBack C.1 (xi := xi) (y := y) C.2.2.1 (mvT C.2.1 w1) (mvT C.2.1 w2) (mvT C.2.1 wf hkf) (mvT C.2.1 w3) (mvT C.2.1 w4) (mvT C.2.1 wp) (mvT C.2.1 wu) (mvT C.2.1 wc) hy
    (backOf (W := W) (Q := fun v h2 L => (yQ v h2 ∧ h.size ≤ h2.size) ∧ Fr Z.heap.size L) (K hE []) C.2.1 w5 w6 hf hl) qa qb qc (g := mkF m pc ls st) rfl (hsz.trans C.2.2.2.2.1.symm) (Steps.refl _) (argsL := argsL) (rest := rest) (lenOf hpd hpl) hst (by show 2 * 0 + _ ≤ _; rw [Nat.mul_zero, Nat.zero_add]; exact hW) (hb C.2.2.2.1 hd) (fun _ _ => ⟨rfl, eT, hcc, hss⟩)
  dsimp only [Pt.U, Pt.locs, Pt.cells, Pt.slots] at X' e1 e2 e3 hQ stp
  subst e1 e2 e3 hp
  exact OGoal.via (fun t kk => stp.trans kk) (k v T'.heap hQ.1 hQ.2 C T' _ X' rfl (Fr.app N hN))
/-- a static method of a nest mate -/
theorem o_callSN {index yl W : Nat} {y : MethodName} {host : String} {yb : ByteArray} {yr : Option FieldType} {rm : Room} {yQ : Option Value → Heap → Prop} {argsL : List Value} {ps : List FieldType} {yr' : Option FieldType}
    (w1 : (Cond.methodLinkNest own index y host).before a0 Z = true) (w2 : (Cond.static y).before a0 Z = true) (w3 : (Cond.initialized y.cls).before a0 Z = true) (w4 : (Cond.code y yb yl yr).before a0 Z = true)
    (hy : y.cls ≠ "java/lang/invoke/MethodHandle" ∧ y.cls ≠ "java/lang/invoke/VarHandle") (K : Ext Z.heap h → OCtr l Z y yb yl yr rm argsL.toArray h yQ) (hd : decode bytes pc = .ok (.invokestatic index, 3))
    (hpd : parseMethodDescriptor y.desc = some ⟨ps, yr'⟩) (hpl : argsL.length = ps.length) (hsz : ls.size = ml) (hst : st = argsL.reverse ++ rest) (hW : (rest.map fun v => v.category).sum ≤ W)
    (hf : rm.frames + 1 ≤ R.frames) (hl : W + (yl + 11) + rm.locals ≤ R.locals) (hcc : cells + rm.cells ≤ R.cells) (hss : slots + rm.slots ≤ R.slots) (hp : pc + 3 = pc')
    (k : ∀ v h', yQ v h' → h.size ≤ h'.size → OG p l e R s m args below meth c Z own nm bytes ml ret Q kc ks h' (cells + rm.cells) (slots + rm.slots) (mkF m pc' ls (v.toList ++ rest))) : OG p l e R s m args below meth c Z own nm bytes ml ret Q kc ks h cells slots (mkF m pc ls st) := by
  intro C T locs X eT N
  have hE : Ext Z.heap h := eT ▸ own_ext X C.2.2.2.2.2.2.2.2 N
  have w1' : (Cond.methodLinkNest own index y host).before args s = true := (Cond.methodLinkNest_wide C.2.1 w1 :)
  obtain ⟨v, vm₁, ⟨T', L', k', n'⟩, -, X', ⟨L, ⟨hQ, hN⟩, e1, e2, e3⟩, stp⟩ := callSN X C.1 (y := y) C.2.2.1 w1' (mvT C.2.1 w2) (mvT C.2.1 w3) (mvT C.2.1 w4) hy
    (backOf (W := W) (Q := fun v h2 L => (yQ v h2 ∧ h.size ≤ h2.size) ∧ Fr Z.heap.size L) (K hE []) C.2.1 w4 w3 hf hl) (g := mkF m pc ls st) rfl (hsz.trans C.2.2.2.2.1.symm) (argsL := argsL) (rest := rest) (lenOf hpd hpl) hst (by show 2 * 0 + _ ≤ _; rw [Nat.mul_zero, Nat.zero_add]; exact hW) (hb C.2.2.2.1 hd) (fun _ _ => ⟨rfl, eT, hcc, hss⟩)
  dsimp only [Pt.U, Pt.locs, Pt.cells, Pt.slots] at X' e1 e2 e3 hQ stp
  subst e1 e2 e3 hp
  exact OGoal.via (fun t kk => stp.trans kk) (k v T'.heap hQ.1 hQ.2 C T' _ X' rfl (Fr.app N hN))
theorem OArr.arv {d : Value} (F : OArr Z h a k0 ty vs) (hf : ∀ v ∈ vs, fits ty v = true) : Arv Z h a k0 ty (Int32.ofNat vs.length) vs d := by
  obtain ⟨cl, A, q0, q1, q2⟩ := F
  obtain ⟨e1, e2⟩ := own_clamp q2
  subst q1
  have hsz : cl.slots.size = cl.slots.toList.length := Array.length_toList.symm
  refine ⟨cl, A, q0, by rw [e2, hsz], e1, fun i hi => ?_, fun i hi => ?_⟩
  · rw [hsz] at hi
    rw [← Array.getElem?_toList, List.getElem?_eq_getElem hi, List.getD_eq_getElem?_getD, List.getElem?_eq_getElem hi]
    rfl
  · rw [hsz] at hi
    rw [List.getD_eq_getElem?_getD, List.getElem?_eq_getElem hi]
    exact hf _ (List.getElem_mem hi)
theorem own_oarr {n : Nat} {d : Value} (F : Arv Z h a k0 ty (Int32.ofNat n) vs d) (hn : n < 2 ^ 31) (hl : vs.length = n) : OArr Z h a k0 ty vs := by
  obtain ⟨cl, A, q0, q1, -, H, -⟩ := F
  rw [(own_clamp hn).2] at q1
  refine ⟨cl, A, q0, ?_, by omega⟩
  apply List.ext_getElem?
  intro i
  by_cases hi : i < n
  · have := H i (by omega)
    rw [Array.getElem?_toList, this, List.getD_eq_getElem?_getD, List.getElem?_eq_getElem (by omega)]
    rfl
  · rw [List.getElem?_eq_none (by rw [Array.length_toList]; omega), List.getElem?_eq_none (by omega)]
theorem own_fitI {xs : List Int32} : ∀ v ∈ xs.map Value.int, fits .int v = true := by
  intro v hv
  obtain ⟨x, -, rfl⟩ := List.mem_map.mp hv
  rfl
/-- System.arraycopy of ints, from one array into another -/
theorem o_cpyI {index W i j n : Nat} {k1 : ClassId} {xs ys : List Int32} {zi zj zn : Int32} (w1 : (Cond.methodLink own index Jvm.Stand.acN).before a0 Z = true) (w2 : (Cond.native Jvm.Stand.acN).before a0 Z = true) (w3 : (Cond.static Jvm.Stand.acN).before a0 Z = true) (w4 : (Cond.initialized "java/lang/System").before a0 Z = true)
    (A : OArr Z h a k0 .int (xs.map Value.int)) (B : OArr Z h b k1 .int (ys.map Value.int)) (hi : zi = Int32.ofNat i) (hj : zj = Int32.ofNat j) (hn : zn = Int32.ofNat n) (h4 : i + n ≤ xs.length) (h5 : j + n ≤ ys.length) (ha : Z.heap.size ≤ b)
    (hd : decode bytes pc = .ok (.invokestatic index, 3)) (hsz : ls.size = ml) (hW : (rest.map fun v => v.category).sum ≤ W) (hf : 1 ≤ R.frames) (hl : W + 18 ≤ R.locals) (hp : pc + 3 = pc')
    (k : ∀ h', Keep h h' [b] → OArr Z h' b k1 .int ((ys.take j ++ (xs.drop i).take n ++ ys.drop (j + n)).map Value.int) → OG p l e R s m args below meth c Z own nm bytes ml ret Q kc ks h' cells slots (mkF m pc' ls rest)) : OG p l e R s m args below meth c Z own nm bytes ml ret Q kc ks h cells slots (mkF m pc ls (.int zn :: .int zj :: .ref b :: .int zi :: .ref a :: rest)) := by
  intro C T locs X eT N
  subst hi hj hn hp
  have lx : xs.length < 2 ^ 31 := by obtain ⟨_, _, _, _, q⟩ := A; rwa [List.length_map] at q
  have ly : ys.length < 2 ^ 31 := by obtain ⟨_, _, _, _, q⟩ := B; rwa [List.length_map] at q
  have A' := A.arv (d := .int 0) own_fitI
  have B' := B.arv (d := .int 0) own_fitI
  rw [List.length_map] at A' B'
  obtain ⟨i1, i2⟩ := own_clamp (i := i) (by omega)
  obtain ⟨j1, j2⟩ := own_clamp (i := j) (by omega)
  obtain ⟨n1, n2⟩ := own_clamp (i := n) (by omega)
  have us_eq : (((xs.drop i).take n).map Value.int) = (List.range (Int32.ofNat n).toNatClampNeg).map fun t => (xs.map Value.int).getD ((Int32.ofNat i).toNatClampNeg + t) (.int 0) := by
    rw [n2, i2]
    apply List.ext_getElem?
    intro t
    by_cases ht : t < n
    · rw [List.getElem?_map, List.getElem?_take_of_lt ht, List.getElem?_drop, List.getElem?_map, List.getElem?_range ht, List.getElem?_eq_getElem (by omega)]
      simp only [Option.map_some, List.getD_eq_getElem?_getD, List.getElem?_map]
      rw [List.getElem?_eq_getElem (by omega)]
      rfl
    · rw [List.getElem?_eq_none (by simp; omega), List.getElem?_eq_none (by simp; omega)]
  obtain ⟨T', h', L, X', e', N', K', B2, stp⟩ := cpA X C.1 C.2.1 C.2.2.1 w1 w2 w3 w4 eT A' B' (Or.inl ⟨rfl, rfl⟩) i1 j1 n1 (by rw [i2, n2, (own_clamp lx).2]; exact h4) (by rw [j2, n2, (own_clamp ly).2]; exact h5) us_eq (by rw [j2, n2, List.length_map]; exact h5) N ha
    (g := mkF m pc ls (.int (Int32.ofNat n) :: .int (Int32.ofNat j) :: .ref b :: .int (Int32.ofNat i) :: .ref a :: rest)) rfl (hsz.trans C.2.2.2.2.1.symm) rfl (hb C.2.2.2.1 hd) hf (W := W) (by show 2 * 0 + _ ≤ _; rw [Nat.mul_zero, Nat.zero_add]; exact hW) (by rw [show nativeFrameWords "java/lang/System" "arraycopy" 5 + 11 = 18 from by rw [nativeFrameWords_plain 5 (by decide)]]; exact hl)
  rw [j2, n2] at B2
  have B3 : OArr Z h' b k1 .int ((ys.take j ++ (xs.drop i).take n ++ ys.drop (j + n)).map Value.int) := by
    rw [List.map_append, List.map_append, List.map_take (l := ys), List.map_drop (l := ys)]
    exact own_oarr B2 ly (by simp; omega)
  exact OGoal.via stp (k h' K' B3 C T' L X' e' N')
theorem o_newPE {aty : ArrayType} {n cap : Nat} {j : Int32} {ad : String} (w : (Cond.arrayClass (newarray.typeOf aty)).before a0 Z = true) (had : "[" ++ (newarray.typeOf aty).toString = ad) (hj : j = Int32.ofNat n) (hn : n ≤ cap) (hcap : cap < 60000000) (hd : decode bytes pc = .ok (.newarray aty, 2)) (hc : cells + 1 ≤ R.cells) (hl : slots + cap ≤ R.slots) (hp : pc + 2 = pc')
    (k : ∀ h' a k0, a = h.size → Z.heap.size ≤ a → Ext h h' → OArr Z h' a k0 (newarray.typeOf aty) (List.replicate n (defaultValue (newarray.typeOf aty))) → Exa Z h' a ad → OG p l e R s m args below meth c Z own nm bytes ml ret Q kc ks h' (cells + 1) (slots + cap) (mkF m pc' ls (.ref a :: rest))) : OG p l e R s m args below meth c Z own nm bytes ml ret Q kc ks h cells slots (mkF m pc ls (.int j :: rest)) := by
  intro C T locs X eT N
  subst hj hp
  have hE : Ext Z.heap h := eT ▸ own_ext X C.2.2.2.2.2.2.2.2 N
  obtain ⟨e1, e2⟩ := own_clamp (i := n) (by omega)
  obtain ⟨T', h', cA, X', e', E', A', G', stp⟩ := newPE X C.1 C.2.1 w eT (g := mkF m pc ls (.int (Int32.ofNat n) :: rest)) rfl (hb C.2.2.2.1 hd) rfl e1 (cap := cap) (by rw [e2]; exact hn) (by omega) hc hl had
  exact OGoal.via stp (k h' h.size cA rfl hE.1 E' (own_newA (by omega) A') G' C T' _ X' e' N)
theorem own_fitC {cl : Cell} {xs : List Int32} (A : Arr Z h a cl .int) (q : cl.slots.toList = xs.map Value.int) : FitC Z cl := by
  intro i v hv
  obtain ⟨-, k, h1, comp, h2⟩ := A.2.1
  have hm : v ∈ xs.map Value.int := by
    rw [← q]
    exact List.mem_of_getElem? (by rw [Array.getElem?_toList]; exact hv)
  have hf := own_fitI v hm
  simp [State.fitsSlot, State.slotType?, h1, h2, hf]
/-- clone() of an int[] -/
theorem o_cloneI {index W cap : Nat} {xs : List Int32} (w1 : (Cond.methodLink own index ⟨"[I", "clone", "()Ljava/lang/Object;"⟩).before a0 Z = true) (w2 : (Cond.sameMethod "[I" "java/lang/Object" "clone" "()Ljava/lang/Object;").before a0 Z = true) (w3 : (Cond.native ⟨"java/lang/Object", "clone", "()Ljava/lang/Object;"⟩).before a0 Z = true)
    (w4 : (Cond.instanceMethod ⟨"java/lang/Object", "clone", "()Ljava/lang/Object;"⟩).before a0 Z = true) (w5 : (Cond.selects "[I" ⟨"[I", "clone", "()Ljava/lang/Object;"⟩ ⟨"java/lang/Object", "clone", "()Ljava/lang/Object;"⟩).before a0 Z = true) (w6 : (Cond.castable "[I" "java/lang/Cloneable").before a0 Z = true)
    (A : OArr Z h a k0 .int (xs.map Value.int)) (E : Exa Z h a "[I") (hd : decode bytes pc = .ok (.invokevirtual index, 3)) (hsz : ls.size = ml) (hW : (rest.map fun v => v.category).sum ≤ W) (hf : 1 ≤ R.frames) (hl : W + 14 ≤ R.locals) (hcap : xs.length ≤ cap) (hc : cells + 1 ≤ R.cells) (hsl : slots + cap ≤ R.slots) (hp : pc + 3 = pc')
    (k : ∀ h' b, b = h.size → Z.heap.size ≤ b → Ext h h' → OArr Z h' b k0 .int (xs.map Value.int) → Exa Z h' b "[I" → OG p l e R s m args below meth c Z own nm bytes ml ret Q kc ks h' (cells + 1) (slots + cap) (mkF m pc' ls (.ref b :: rest))) : OG p l e R s m args below meth c Z own nm bytes ml ret Q kc ks h cells slots (mkF m pc ls (.ref a :: rest)) := by
  intro C T locs X eT N
  subst hp
  have hE : Ext Z.heap h := eT ▸ own_ext X C.2.2.2.2.2.2.2.2 N
  obtain ⟨cl, A1, q0, q1, q2⟩ := A
  have hsz2 : cl.slots.size = xs.length := by rw [← Array.length_toList, q1, List.length_map]
  obtain ⟨T', h', X', e', E', A', G', stp⟩ := cloneA X C.1 C.2.1 C.2.2.1 w1 w2 w3 w4 w5 w6 eT A1 E (own_fitC A1 q1) (g := mkF m pc ls (.ref a :: rest)) rfl (hsz.trans C.2.2.2.2.1.symm) rfl (hb C.2.2.2.1 hd) hf (W := W) (cap := cap) (by show 2 * 0 + _ ≤ _; rw [Nat.mul_zero, Nat.zero_add]; exact hW) hl (by rw [hsz2]; exact hcap) hc hsl
  exact OGoal.via stp (k h' h.size rfl hE.1 E' ⟨_, A', q0, q1, q2⟩ G' C T' _ X' e' N)
end JdkKit
theorem own_setI {Z : State} {h h' : Heap} {a : Addr} {k0 : ClassId} {xs : List Int32} {i : Nat} {v : Int32} (F : OArr Z h a k0 .int (xs.map Value.int)) (W : Wr h h' a i (.int v)) : OArr Z h' a k0 .int ((xs.set i v).map Value.int) := by
  have q := F.set W
  rw [← List.map_set] at q
  exact q
theorem own_repI {Z : State} {h : Heap} {a : Addr} {k0 : ClassId} {n : Nat} (F : OArr Z h a k0 (newarray.typeOf .int) (List.replicate n (defaultValue (newarray.typeOf .int)))) : OArr Z h a k0 .int ((List.replicate n (0 : Int32)).map Value.int) := by
  rw [List.map_replicate]
  exact F
theorem own_getI {xs : List Int32} {i : Nat} (hi : i < xs.length) : (xs.map Value.int)[i]? = some (.int (xs.getD i 0)) := by
  rw [List.getElem?_map, List.getElem?_eq_getElem hi, List.getD_eq_getElem?_getD, List.getElem?_eq_getElem hi]
  rfl
theorem own_addn (i j : Nat) : Int32.ofNat i + Int32.ofNat j = Int32.ofNat (i + j) := (Int32.ofNat_add i j).symm
theorem own_n32 {i : Nat} (hi : i < 2 ^ 31) : (Int32.ofNat i).toInt = i := by
  have : (Int32.ofNat i).toInt = Int.bmod i (2 ^ 32) := Int32.toInt_ofNat'
  rw [this, Int.bmod_def]
  omega
theorem own_ltn {i j : Nat} (hi : i < 2 ^ 31) (hj : j < 2 ^ 31) : Int32.ofNat i < Int32.ofNat j ↔ i < j := by
  rw [Int32.lt_iff_toInt_lt, own_n32 hi, own_n32 hj]
  omega
theorem own_mask (r : Int32) {k : Nat} {q : Int32} (hk : k ≤ 31) (hq : q.toBitVec.toNat = 2 ^ k - 1) : ∃ s, s < 2 ^ k ∧ r &&& q = Int32.ofNat s := by
  refine ⟨r.toBitVec.toNat % 2 ^ k, Nat.mod_lt _ (Nat.two_pow_pos k), Int32.toBitVec_inj.mp (BitVec.eq_of_toNat_eq ?_)⟩
  rw [Int32.toBitVec_and, BitVec.toNat_and, hq, Nat.and_two_pow_sub_one_eq_mod]
  show _ = (BitVec.ofNat 32 _).toNat
  rw [BitVec.toNat_ofNat]
  have h1 : r.toBitVec.toNat % 2 ^ k < 2 ^ k := Nat.mod_lt _ (Nat.two_pow_pos k)
  have h2 : 2 ^ k ≤ 2 ^ 31 := Nat.pow_le_pow_right (by decide) hk
  exact (Nat.mod_eq_of_lt (by omega)).symm
theorem own_t10 (t : Nat) : (Int32.ofNat t * 1) + 0 = Int32.ofNat t := by rw [Int32.mul_one, Int32.add_zero]
def OList (Z : State) (h : Heap) (a ed : Addr) (n mc : Int32) : Prop := Exa Z h a "java/util/ArrayList" ∧ Fld Z h a "java/util/AbstractList" "modCount" "I" (.int mc) ∧ Fld Z h a "java/util/ArrayList" "elementData" "[Ljava/lang/Object;" (.ref ed) ∧ Fld Z h a "java/util/ArrayList" "size" "I" (.int n)
def OIdx (Z : State) (h : Heap) (ix r ps bk nx : Addr) (lk : Int32) : Prop := Exa Z h ix "com/example/mild_horn/mildhorn/datalog/Relation$Index" ∧ Fld Z h ix "com/example/mild_horn/mildhorn/datalog/Relation$Index" "this$0" "Lcom/example/mild_horn/mildhorn/datalog/Relation;" (.ref r) ∧ Fld Z h ix "com/example/mild_horn/mildhorn/datalog/Relation$Index" "positions" "[I" (.ref ps) ∧ Fld Z h ix "com/example/mild_horn/mildhorn/datalog/Relation$Index" "buckets" "[I" (.ref bk) ∧ Fld Z h ix "com/example/mild_horn/mildhorn/datalog/Relation$Index" "next" "[I" (.ref nx) ∧ Fld Z h ix "com/example/mild_horn/mildhorn/datalog/Relation$Index" "linked" "I" (.int lk)
def ORel (Z : State) (h : Heap) (r vals ix al : Addr) (n st kn : Int32) : Prop := Exa Z h r "com/example/mild_horn/mildhorn/datalog/Relation" ∧ Fld Z h r "com/example/mild_horn/mildhorn/datalog/Relation" "arity" "I" (.int 1) ∧ Fld Z h r "com/example/mild_horn/mildhorn/datalog/Relation" "values" "[I" (.ref vals) ∧ Fld Z h r "com/example/mild_horn/mildhorn/datalog/Relation" "size" "I" (.int n) ∧ Fld Z h r "com/example/mild_horn/mildhorn/datalog/Relation" "stable" "I" (.int st) ∧ Fld Z h r "com/example/mild_horn/mildhorn/datalog/Relation" "known" "I" (.int kn) ∧ Fld Z h r "com/example/mild_horn/mildhorn/datalog/Relation" "all" "Lcom/example/mild_horn/mildhorn/datalog/Relation$Index;" (.ref ix) ∧ Fld Z h r "com/example/mild_horn/mildhorn/datalog/Relation" "indexes" "Ljava/util/List;" (.ref al)
def OB (n : Nat) (x : Int32) : Prop := x = -1 ∨ ∃ t, t < n ∧ x = Int32.ofNat t
def RI (Z : State) (h : Heap) (r ix al ed vals bk nx ps : Addr) (n : Nat) (st kn : Int32) : Prop := ∃ (ke kv kb kn' kp : ClassId) (vl bl nl : List Int32), ORel Z h r vals ix al (Int32.ofNat n) st kn ∧ OIdx Z h ix r ps bk nx (Int32.ofNat n) ∧ OList Z h al ed 1 1 ∧ OArr Z h ed ke (.object "java/lang/Object") [.ref ix] ∧ OArr Z h vals kv .int (vl.map Value.int) ∧ OArr Z h bk kb .int (bl.map Value.int) ∧ OArr Z h nx kn' .int (nl.map Value.int) ∧ OArr Z h ps kp .int ([(0 : Int32)].map Value.int) ∧ vl.length = 16 ∧ bl.length = 16 ∧ nl.length = 16 ∧ (∀ i < 16, OB n (bl.getD i 0)) ∧ (∀ t < n, OB t (nl.getD t 0))
def RN (Z : State) (L : List Addr) : Prop := L.Pairwise (fun a b => a ≠ b) ∧ ∀ a ∈ L, Z.heap.size ≤ a
theorem RN.ne {Z : State} {L : List Addr} (D : RN Z L) (i j : Nat) {a b : Addr} (hij : i < j) (h1 : L[i]? = some a) (h2 : L[j]? = some b) : a ≠ b := by
  obtain ⟨hi, e1⟩ := List.getElem?_eq_some_iff.mp h1
  obtain ⟨hj, e2⟩ := List.getElem?_eq_some_iff.mp h2
  have q := List.pairwise_iff_getElem.mp D.1 i j hi hj hij
  rw [e1, e2] at q
  exact q
theorem RN.new {Z : State} {L : List Addr} (D : RN Z L) (i : Nat) {a : Addr} (h1 : L[i]? = some a) : Z.heap.size ≤ a := D.2 a (List.mem_of_getElem? h1)
theorem own_rep (n : Nat) (x : Int32) : ∀ i < n, (List.replicate n x).getD i 0 = x := by
  intro i hi
  rw [List.getD_eq_getElem?_getD, List.getElem?_replicate, if_pos hi]
  rfl
theorem own_nm1 {t : Nat} (ht : t < 2 ^ 31) : ¬ Int32.ofNat t = -1 := by
  intro q
  have h1 := own_n32 ht
  rw [q] at h1
  have h2 : (-1 : Int32).toInt = -1 := rfl
  omega
theorem OB.mono {n m : Nat} {x : Int32} (q : OB n x) (h : n ≤ m) : OB m x := q.imp id fun ⟨t, h1, h2⟩ => ⟨t, by omega, h2⟩
theorem own_setD {xs : List Int32} {i j : Nat} {v : Int32} (hi : i < xs.length) : (xs.set i v).getD j 0 = if i = j then v else xs.getD j 0 := by
  rw [List.getD_eq_getElem?_getD, List.getElem?_set]
  by_cases q : i = j
  · subst q; rw [if_pos rfl, if_pos rfl, if_pos hi]; rfl
  · rw [if_neg q, if_neg q, List.getD_eq_getElem?_getD]
theorem own_b1 {bl : List Int32} {n i : Nat} (hl : bl.length = 16) (hi : i < 16) (Hb : ∀ j < 16, OB n (bl.getD j 0)) : ∀ j < 16, OB (n + 1) ((bl.set i (Int32.ofNat n)).getD j 0) := by
  intro j hj
  rw [own_setD (by omega)]
  by_cases q : i = j
  · rw [if_pos q]; exact Or.inr ⟨n, by omega, rfl⟩
  · rw [if_neg q]; exact (Hb j hj).mono (by omega)
theorem own_b2 {nl : List Int32} {n : Nat} {x : Int32} (hl : nl.length = 16) (hn : n < 16) (hx : OB n x) (Hn : ∀ t < n, OB t (nl.getD t 0)) : ∀ t < n + 1, OB t ((nl.set n x).getD t 0) := by
  intro t ht
  rw [own_setD (by omega)]
  by_cases q : n = t
  · subst q; rw [if_pos rfl]; exact hx
  · rw [if_neg q]; exact Hn t (by omega)
def OItr (Z : State) (h : Heap) (it al : Addr) (cu la mc : Int32) : Prop := Exa Z h it "java/util/ArrayList$Itr" ∧ Fld Z h it "java/util/ArrayList$Itr" "cursor" "I" (.int cu) ∧ Fld Z h it "java/util/ArrayList$Itr" "lastRet" "I" (.int la) ∧ Fld Z h it "java/util/ArrayList$Itr" "expectedModCount" "I" (.int mc) ∧ Fld Z h it "java/util/ArrayList$Itr" "this$0" "Ljava/util/ArrayList;" (.ref al)
theorem RI.exa {Z : State} {h : Heap} {r ix al ed vals bk nx ps : Addr} {n : Nat} {st kn : Int32} (HI : RI Z h r ix al ed vals bk nx ps n st kn) : Exa Z h r "com/example/mild_horn/mildhorn/datalog/Relation" := by
  obtain ⟨_, _, _, _, _, _, _, _, HR, -⟩ := HI
  exact HR.1
theorem own_d1 {d : Nat} (hd : d ≤ 1) (q : ¬ Int32.ofNat d = 0) : d = 1 := by
  rcases Nat.eq_zero_or_pos d with r | r
  · exact absurd (by rw [r]; rfl) q
  · omega

theorem b6_0_2 : oBlk jdk_29_method_65_code 0 [.iload_n 0, .iload_n 1] = some 2 := by decide +kernel
theorem d6_2 : decode jdk_29_method_65_code 2 = .ok (.if_icmp .lt 7, 3) := by decide +kernel
theorem b6_9_10 : oBlk jdk_29_method_65_code 9 [.iload_n 1] = some 10 := by decide +kernel
theorem d6_10 : decode jdk_29_method_65_code 10 = .ok (.ireturn, 1) := by decide +kernel
theorem b6_5_6 : oBlk jdk_29_method_65_code 5 [.iload_n 0] = some 6 := by decide +kernel
theorem d6_6 : decode jdk_29_method_65_code 6 = .ok (.goto 4, 3) := by decide +kernel
theorem b5_0_1 : oBlk jdk_22_method_1_code 0 [.aload_n 0] = some 1 := by decide +kernel
theorem d5_1 : decode jdk_22_method_1_code 1 = .ok (.invokespecial 1, 3) := by decide +kernel
theorem d5_4 : decode jdk_22_method_1_code 4 = .ok (.return_, 1) := by decide +kernel
theorem pn_0 : plainName "java/util/AbstractCollection" = true := by first | (simp [plainName, overriddenIn]; done) | decide +kernel
theorem b4_0_1 : oBlk jdk_39_method_1_code 0 [.aload_n 0] = some 1 := by decide +kernel
theorem d4_1 : decode jdk_39_method_1_code 1 = .ok (.invokespecial 1, 3) := by decide +kernel
theorem pd_0 : parseMethodDescriptor "()V" = some ⟨[], none⟩ := by decide +kernel
theorem b4_4_6 : oBlk jdk_39_method_1_code 4 [.aload_n 0, .iconst 0] = some 6 := by decide +kernel
theorem d4_6 : decode jdk_39_method_1_code 6 = .ok (.putfield 7, 3) := by decide +kernel
theorem d4_9 : decode jdk_39_method_1_code 9 = .ok (.return_, 1) := by decide +kernel
theorem pn_1 : plainName "java/util/AbstractList" = true := by first | (simp [plainName, overriddenIn]; done) | decide +kernel
theorem b3_0_1 : oBlk jdk_38_method_1_code 0 [.aload_n 0] = some 1 := by decide +kernel
theorem d3_1 : decode jdk_38_method_1_code 1 = .ok (.invokespecial 1, 3) := by decide +kernel
theorem b3_4_5 : oBlk jdk_38_method_1_code 4 [.iload_n 1] = some 5 := by decide +kernel
theorem d3_5 : decode jdk_38_method_1_code 5 = .ok (.ifCond .le 14, 3) := by decide +kernel
theorem b3_8_10 : oBlk jdk_38_method_1_code 8 [.aload_n 0, .iload_n 1] = some 10 := by decide +kernel
theorem d3_10 : decode jdk_38_method_1_code 10 = .ok (.anewarray 7, 3) := by decide +kernel
theorem d3_13 : decode jdk_38_method_1_code 13 = .ok (.putfield 9, 3) := by decide +kernel
theorem d3_16 : decode jdk_38_method_1_code 16 = .ok (.goto 44, 3) := by decide +kernel
theorem d3_60 : decode jdk_38_method_1_code 60 = .ok (.return_, 1) := by decide +kernel
theorem pn_2 : plainName "java/util/ArrayList" = true := by first | (simp [plainName, overriddenIn]; done) | decide +kernel
theorem b8_0_2 : oBlk jdk_65_method_103_code 0 [.iconst 0, .istore_n 2] = some 2 := by decide +kernel
theorem b8_2_3 : oBlk jdk_65_method_103_code 2 [.aload_n 0] = some 3 := by decide +kernel
theorem d8_3 : decode jdk_65_method_103_code 3 = .ok (.arraylength, 1) := by decide +kernel
theorem b8_4_5 : oBlk jdk_65_method_103_code 4 [.istore_n 3] = some 5 := by decide +kernel
theorem b8_5_7 : oBlk jdk_65_method_103_code 5 [.iload_n 2, .iload_n 3] = some 7 := by decide +kernel
theorem d8_7 : decode jdk_65_method_103_code 7 = .ok (.if_icmp .ge 13, 3) := by decide +kernel
theorem b8_10_13 : oBlk jdk_65_method_103_code 10 [.aload_n 0, .iload_n 2, .iload_n 1] = some 13 := by decide +kernel
theorem d8_13 : decode jdk_65_method_103_code 13 = .ok (.iastore, 1) := by decide +kernel
theorem b8_14_17 : oBlk jdk_65_method_103_code 14 [.iinc 2 1] = some 17 := by decide +kernel
theorem d8_17 : decode jdk_65_method_103_code 17 = .ok (.goto (-12), 3) := by decide +kernel
theorem d8_20 : decode jdk_65_method_103_code 20 = .ok (.return_, 1) := by decide +kernel
theorem pn_3 : plainName "java/util/Arrays" = true := by first | (simp [plainName, overriddenIn]; done) | decide +kernel
theorem b10_0_2 : oBlk jdk_38_method_24_code 0 [.iload_n 3, .aload_n 2] = some 2 := by decide +kernel
theorem d10_2 : decode jdk_38_method_24_code 2 = .ok (.arraylength, 1) := by decide +kernel
theorem d10_3 : decode jdk_38_method_24_code 3 = .ok (.if_icmp .ne 8, 3) := by decide +kernel
theorem b10_11_14 : oBlk jdk_38_method_24_code 11 [.aload_n 2, .iload_n 3, .aload_n 1] = some 14 := by decide +kernel
theorem d10_14 : decode jdk_38_method_24_code 14 = .ok (.aastore, 1) := by decide +kernel
theorem b10_15_19 : oBlk jdk_38_method_24_code 15 [.aload_n 0, .iload_n 3, .iconst 1, .iadd] = some 19 := by decide +kernel
theorem d10_19 : decode jdk_38_method_24_code 19 = .ok (.putfield 48, 3) := by decide +kernel
theorem d10_22 : decode jdk_38_method_24_code 22 = .ok (.return_, 1) := by decide +kernel
theorem b9_0_2 : oBlk jdk_38_method_25_code 0 [.aload_n 0, .dup] = some 2 := by decide +kernel
theorem d9_2 : decode jdk_38_method_25_code 2 = .ok (.getfield 63, 3) := by decide +kernel
theorem b9_5_7 : oBlk jdk_38_method_25_code 5 [.iconst 1, .iadd] = some 7 := by decide +kernel
theorem d9_7 : decode jdk_38_method_25_code 7 = .ok (.putfield 63, 3) := by decide +kernel
theorem b9_10_13 : oBlk jdk_38_method_25_code 10 [.aload_n 0, .aload_n 1, .aload_n 0] = some 13 := by decide +kernel
theorem d9_13 : decode jdk_38_method_25_code 13 = .ok (.getfield 9, 3) := by decide +kernel
theorem b9_16_17 : oBlk jdk_38_method_25_code 16 [.aload_n 0] = some 17 := by decide +kernel
theorem d9_17 : decode jdk_38_method_25_code 17 = .ok (.getfield 48, 3) := by decide +kernel
theorem d9_20 : decode jdk_38_method_25_code 20 = .ok (.invokevirtual 131, 3) := by decide +kernel
theorem pd_1 : parseMethodDescriptor "(Ljava/lang/Object;[Ljava/lang/Object;I)V" = some ⟨[(.object "java/lang/Object"), (.array (.object "java/lang/Object")), .int], none⟩ := by decide +kernel
theorem b9_23_24 : oBlk jdk_38_method_25_code 23 [.iconst 1] = some 24 := by decide +kernel
theorem d9_24 : decode jdk_38_method_25_code 24 = .ok (.ireturn, 1) := by decide +kernel
theorem b7_0_2 : oBlk prog_25_method_1_code 0 [.aload_n 0, .aload_n 1] = some 2 := by decide +kernel
theorem d7_2 : decode prog_25_method_1_code 2 = .ok (.putfield 3, 3) := by decide +kernel
theorem b7_5_6 : oBlk prog_25_method_1_code 5 [.aload_n 0] = some 6 := by decide +kernel
theorem d7_6 : decode prog_25_method_1_code 6 = .ok (.invokespecial 9, 3) := by decide +kernel
theorem b7_9_12 : oBlk prog_25_method_1_code 9 [.aload_n 0, .bipush 16] = some 12 := by decide +kernel
theorem d7_12 : decode prog_25_method_1_code 12 = .ok (.newarray .int, 2) := by decide +kernel
theorem d7_14 : decode prog_25_method_1_code 14 = .ok (.putfield 15, 3) := by decide +kernel
theorem b7_17_20 : oBlk prog_25_method_1_code 17 [.aload_n 0, .bipush 16] = some 20 := by decide +kernel
theorem d7_20 : decode prog_25_method_1_code 20 = .ok (.newarray .int, 2) := by decide +kernel
theorem d7_22 : decode prog_25_method_1_code 22 = .ok (.putfield 19, 3) := by decide +kernel
theorem b7_25_27 : oBlk prog_25_method_1_code 25 [.aload_n 0, .aload_n 2] = some 27 := by decide +kernel
theorem d7_27 : decode prog_25_method_1_code 27 = .ok (.invokevirtual 22, 3) := by decide +kernel
theorem d7_30 : decode prog_25_method_1_code 30 = .ok (.checkcast 23, 3) := by decide +kernel
theorem d7_33 : decode prog_25_method_1_code 33 = .ok (.putfield 27, 3) := by decide +kernel
theorem b7_36_37 : oBlk prog_25_method_1_code 36 [.aload_n 0] = some 37 := by decide +kernel
theorem d7_37 : decode prog_25_method_1_code 37 = .ok (.getfield 15, 3) := by decide +kernel
theorem b7_40_41 : oBlk prog_25_method_1_code 40 [.iconst (-1)] = some 41 := by decide +kernel
theorem d7_41 : decode prog_25_method_1_code 41 = .ok (.invokestatic 30, 3) := by decide +kernel
theorem pd_2 : parseMethodDescriptor "([II)V" = some ⟨[(.array .int), .int], none⟩ := by decide +kernel
theorem d7_44 : decode prog_25_method_1_code 44 = .ok (.return_, 1) := by decide +kernel
theorem pn_4 : plainName "com/example/mild_horn/mildhorn/datalog/Relation$Index" = true := by first | (simp [plainName, overriddenIn]; done) | decide +kernel
theorem b1_0_1 : oBlk prog_24_method_1_code 0 [.aload_n 0] = some 1 := by decide +kernel
theorem d1_1 : decode prog_24_method_1_code 1 = .ok (.invokespecial 1, 3) := by decide +kernel
theorem b1_4_5 : oBlk prog_24_method_1_code 4 [.aload_n 0] = some 5 := by decide +kernel
theorem d1_5 : decode prog_24_method_1_code 5 = .ok (.new 7, 3) := by decide +kernel
theorem b1_8_10 : oBlk prog_24_method_1_code 8 [.dup, .iconst 1] = some 10 := by decide +kernel
theorem d1_10 : decode prog_24_method_1_code 10 = .ok (.invokespecial 9, 3) := by decide +kernel
theorem pd_3 : parseMethodDescriptor "(I)V" = some ⟨[.int], none⟩ := by decide +kernel
theorem d1_13 : decode prog_24_method_1_code 13 = .ok (.putfield 12, 3) := by decide +kernel
theorem b1_16_18 : oBlk prog_24_method_1_code 16 [.aload_n 0, .iload_n 1] = some 18 := by decide +kernel
theorem d1_18 : decode prog_24_method_1_code 18 = .ok (.putfield 18, 3) := by decide +kernel
theorem b1_21_26 : oBlk prog_24_method_1_code 21 [.aload_n 0, .bipush 16, .iload_n 1, .iconst 1] = some 26 := by decide +kernel
theorem d1_26 : decode prog_24_method_1_code 26 = .ok (.invokestatic 22, 3) := by decide +kernel
theorem pd_4 : parseMethodDescriptor "(II)I" = some ⟨[.int, .int], some .int⟩ := by decide +kernel
theorem b1_29_30 : oBlk prog_24_method_1_code 29 [.imul] = some 30 := by decide +kernel
theorem d1_30 : decode prog_24_method_1_code 30 = .ok (.newarray .int, 2) := by decide +kernel
theorem d1_32 : decode prog_24_method_1_code 32 = .ok (.putfield 28, 3) := by decide +kernel
theorem b1_35_36 : oBlk prog_24_method_1_code 35 [.iload_n 1] = some 36 := by decide +kernel
theorem d1_36 : decode prog_24_method_1_code 36 = .ok (.newarray .int, 2) := by decide +kernel
theorem b1_38_39 : oBlk prog_24_method_1_code 38 [.astore_n 2] = some 39 := by decide +kernel
theorem b1_39_41 : oBlk prog_24_method_1_code 39 [.iconst 0, .istore_n 3] = some 41 := by decide +kernel
theorem b1_41_43 : oBlk prog_24_method_1_code 41 [.iload_n 3, .iload_n 1] = some 43 := by decide +kernel
theorem d1_43 : decode prog_24_method_1_code 43 = .ok (.if_icmp .ge 13, 3) := by decide +kernel
theorem b1_46_49 : oBlk prog_24_method_1_code 46 [.aload_n 2, .iload_n 3, .iload_n 3] = some 49 := by decide +kernel
theorem d1_49 : decode prog_24_method_1_code 49 = .ok (.iastore, 1) := by decide +kernel
theorem b1_50_53 : oBlk prog_24_method_1_code 50 [.iinc 3 1] = some 53 := by decide +kernel
theorem d1_53 : decode prog_24_method_1_code 53 = .ok (.goto (-12), 3) := by decide +kernel
theorem b1_56_57 : oBlk prog_24_method_1_code 56 [.aload_n 0] = some 57 := by decide +kernel
theorem d1_57 : decode prog_24_method_1_code 57 = .ok (.new 32, 3) := by decide +kernel
theorem b1_60_63 : oBlk prog_24_method_1_code 60 [.dup, .aload_n 0, .aload_n 2] = some 63 := by decide +kernel
theorem d1_63 : decode prog_24_method_1_code 63 = .ok (.invokespecial 34, 3) := by decide +kernel
theorem pd_5 : parseMethodDescriptor "(Lcom/example/mild_horn/mildhorn/datalog/Relation;[I)V" = some ⟨[(.object "com/example/mild_horn/mildhorn/datalog/Relation"), (.array .int)], none⟩ := by decide +kernel
theorem d1_66 : decode prog_24_method_1_code 66 = .ok (.putfield 37, 3) := by decide +kernel
theorem b1_69_70 : oBlk prog_24_method_1_code 69 [.aload_n 0] = some 70 := by decide +kernel
theorem d1_70 : decode prog_24_method_1_code 70 = .ok (.getfield 12, 3) := by decide +kernel
theorem b1_73_74 : oBlk prog_24_method_1_code 73 [.aload_n 0] = some 74 := by decide +kernel
theorem d1_74 : decode prog_24_method_1_code 74 = .ok (.getfield 37, 3) := by decide +kernel
theorem d1_77 : decode prog_24_method_1_code 77 = .ok (.invokeinterface 41 2, 5) := by decide +kernel
theorem pd_6 : parseMethodDescriptor "(Ljava/lang/Object;)Z" = some ⟨[(.object "java/lang/Object")], some .boolean⟩ := by decide +kernel
theorem b1_82_83 : oBlk prog_24_method_1_code 82 [.pop] = some 83 := by decide +kernel
theorem d1_83 : decode prog_24_method_1_code 83 = .ok (.return_, 1) := by decide +kernel
theorem pn_5 : plainName "com/example/mild_horn/mildhorn/datalog/Relation" = true := by first | (simp [plainName, overriddenIn]; done) | decide +kernel
theorem b18_0_2 : oBlk prog_24_method_13_code 0 [.iconst 1, .istore_n 1] = some 2 := by decide +kernel
theorem b18_2_4 : oBlk prog_24_method_13_code 2 [.aload_n 0, .astore_n 2] = some 4 := by decide +kernel
theorem b18_4_5 : oBlk prog_24_method_13_code 4 [.aload_n 2] = some 5 := by decide +kernel
theorem d18_5 : decode prog_24_method_13_code 5 = .ok (.arraylength, 1) := by decide +kernel
theorem b18_6_7 : oBlk prog_24_method_13_code 6 [.istore_n 3] = some 7 := by decide +kernel
theorem b18_7_10 : oBlk prog_24_method_13_code 7 [.iconst 0, .istore 4] = some 10 := by decide +kernel
theorem b18_10_13 : oBlk prog_24_method_13_code 10 [.iload 4, .iload_n 3] = some 13 := by decide +kernel
theorem d18_13 : decode prog_24_method_13_code 13 = .ok (.if_icmp .ge 23, 3) := by decide +kernel
theorem b18_16_19 : oBlk prog_24_method_13_code 16 [.aload_n 2, .iload 4] = some 19 := by decide +kernel
theorem d18_19 : decode prog_24_method_13_code 19 = .ok (.iaload, 1) := by decide +kernel
theorem b18_20_22 : oBlk prog_24_method_13_code 20 [.istore 5] = some 22 := by decide +kernel
theorem b18_22_23 : oBlk prog_24_method_13_code 22 [.iload_n 1] = some 23 := by decide +kernel
theorem d18_23 : decode prog_24_method_13_code 23 = .ok (.ldc 118, 2) := by decide +kernel
theorem b18_25_30 : oBlk prog_24_method_13_code 25 [.imul, .iload 5, .iadd, .istore_n 1] = some 30 := by decide +kernel
theorem b18_30_33 : oBlk prog_24_method_13_code 30 [.iinc 4 1] = some 33 := by decide +kernel
theorem d18_33 : decode prog_24_method_13_code 33 = .ok (.goto (-23), 3) := by decide +kernel
theorem b18_36_37 : oBlk prog_24_method_13_code 36 [.iload_n 1] = some 37 := by decide +kernel
theorem d18_37 : decode prog_24_method_13_code 37 = .ok (.ireturn, 1) := by decide +kernel
theorem b19_0_10 : oBlk prog_24_method_14_code 0 [.iload_n 0, .iload_n 0, .bipush 16, .iushr, .ixor, .iload_n 1, .iconst 1, .isub, .iand] = some 10 := by decide +kernel
theorem d19_10 : decode prog_24_method_14_code 10 = .ok (.ireturn, 1) := by decide +kernel
theorem b27_0_1 : oBlk prog_24_method_7_code 0 [.aload_n 0] = some 1 := by decide +kernel
theorem d27_1 : decode prog_24_method_7_code 1 = .ok (.getfield 28, 3) := by decide +kernel
theorem b27_4_6 : oBlk prog_24_method_7_code 4 [.iload_n 1, .aload_n 0] = some 6 := by decide +kernel
theorem d27_6 : decode prog_24_method_7_code 6 = .ok (.getfield 18, 3) := by decide +kernel
theorem b27_9_12 : oBlk prog_24_method_7_code 9 [.imul, .iload_n 2, .iadd] = some 12 := by decide +kernel
theorem d27_12 : decode prog_24_method_7_code 12 = .ok (.iaload, 1) := by decide +kernel
theorem d27_13 : decode prog_24_method_7_code 13 = .ok (.ireturn, 1) := by decide +kernel
theorem b28_0_2 : oBlk prog_25_method_7_code 0 [.iconst 0, .istore_n 3] = some 2 := by decide +kernel
theorem b28_2_4 : oBlk prog_25_method_7_code 2 [.iload_n 3, .aload_n 0] = some 4 := by decide +kernel
theorem d28_4 : decode prog_25_method_7_code 4 = .ok (.getfield 27, 3) := by decide +kernel
theorem d28_7 : decode prog_25_method_7_code 7 = .ok (.arraylength, 1) := by decide +kernel
theorem d28_8 : decode prog_25_method_7_code 8 = .ok (.if_icmp .ge 31, 3) := by decide +kernel
theorem b28_11_12 : oBlk prog_25_method_7_code 11 [.aload_n 0] = some 12 := by decide +kernel
theorem d28_12 : decode prog_25_method_7_code 12 = .ok (.getfield 3, 3) := by decide +kernel
theorem b28_15_17 : oBlk prog_25_method_7_code 15 [.iload_n 1, .aload_n 0] = some 17 := by decide +kernel
theorem d28_17 : decode prog_25_method_7_code 17 = .ok (.getfield 27, 3) := by decide +kernel
theorem b28_20_21 : oBlk prog_25_method_7_code 20 [.iload_n 3] = some 21 := by decide +kernel
theorem d28_21 : decode prog_25_method_7_code 21 = .ok (.iaload, 1) := by decide +kernel
theorem d28_22 : decode prog_25_method_7_code 22 = .ok (.invokevirtual 71, 3) := by decide +kernel
theorem b28_25_27 : oBlk prog_25_method_7_code 25 [.aload_n 2, .iload_n 3] = some 27 := by decide +kernel
theorem d28_27 : decode prog_25_method_7_code 27 = .ok (.iaload, 1) := by decide +kernel
theorem d28_28 : decode prog_25_method_7_code 28 = .ok (.if_icmp .eq 5, 3) := by decide +kernel
theorem b28_33_36 : oBlk prog_25_method_7_code 33 [.iinc 3 1] = some 36 := by decide +kernel
theorem d28_36 : decode prog_25_method_7_code 36 = .ok (.goto (-34), 3) := by decide +kernel
theorem b28_39_40 : oBlk prog_25_method_7_code 39 [.iconst 1] = some 40 := by decide +kernel
theorem d28_40 : decode prog_25_method_7_code 40 = .ok (.ireturn, 1) := by decide +kernel
theorem b28_31_32 : oBlk prog_25_method_7_code 31 [.iconst 0] = some 32 := by decide +kernel
theorem d28_32 : decode prog_25_method_7_code 32 = .ok (.ireturn, 1) := by decide +kernel
theorem b26_0_2 : oBlk prog_25_method_6_code 0 [.iconst 1, .istore_n 2] = some 2 := by decide +kernel
theorem b26_2_3 : oBlk prog_25_method_6_code 2 [.aload_n 0] = some 3 := by decide +kernel
theorem d26_3 : decode prog_25_method_6_code 3 = .ok (.getfield 27, 3) := by decide +kernel
theorem b26_6_7 : oBlk prog_25_method_6_code 6 [.astore_n 3] = some 7 := by decide +kernel
theorem b26_7_8 : oBlk prog_25_method_6_code 7 [.aload_n 3] = some 8 := by decide +kernel
theorem d26_8 : decode prog_25_method_6_code 8 = .ok (.arraylength, 1) := by decide +kernel
theorem b26_9_11 : oBlk prog_25_method_6_code 9 [.istore 4] = some 11 := by decide +kernel
theorem b26_11_14 : oBlk prog_25_method_6_code 11 [.iconst 0, .istore 5] = some 14 := by decide +kernel
theorem b26_14_18 : oBlk prog_25_method_6_code 14 [.iload 5, .iload 4] = some 18 := by decide +kernel
theorem d26_18 : decode prog_25_method_6_code 18 = .ok (.if_icmp .ge 31, 3) := by decide +kernel
theorem b26_21_24 : oBlk prog_25_method_6_code 21 [.aload_n 3, .iload 5] = some 24 := by decide +kernel
theorem d26_24 : decode prog_25_method_6_code 24 = .ok (.iaload, 1) := by decide +kernel
theorem b26_25_27 : oBlk prog_25_method_6_code 25 [.istore 6] = some 27 := by decide +kernel
theorem b26_27_28 : oBlk prog_25_method_6_code 27 [.iload_n 2] = some 28 := by decide +kernel
theorem d26_28 : decode prog_25_method_6_code 28 = .ok (.ldc 70, 2) := by decide +kernel
theorem b26_30_32 : oBlk prog_25_method_6_code 30 [.imul, .aload_n 0] = some 32 := by decide +kernel
theorem d26_32 : decode prog_25_method_6_code 32 = .ok (.getfield 3, 3) := by decide +kernel
theorem b26_35_38 : oBlk prog_25_method_6_code 35 [.iload_n 1, .iload 6] = some 38 := by decide +kernel
theorem d26_38 : decode prog_25_method_6_code 38 = .ok (.invokevirtual 71, 3) := by decide +kernel
theorem b26_41_43 : oBlk prog_25_method_6_code 41 [.iadd, .istore_n 2] = some 43 := by decide +kernel
theorem b26_43_46 : oBlk prog_25_method_6_code 43 [.iinc 5 1] = some 46 := by decide +kernel
theorem d26_46 : decode prog_25_method_6_code 46 = .ok (.goto (-32), 3) := by decide +kernel
theorem b26_49_50 : oBlk prog_25_method_6_code 49 [.iload_n 2] = some 50 := by decide +kernel
theorem d26_50 : decode prog_25_method_6_code 50 = .ok (.ireturn, 1) := by decide +kernel
theorem b17_0_1 : oBlk prog_24_method_11_code 0 [.aload_n 1] = some 1 := by decide +kernel
theorem d17_1 : decode prog_24_method_11_code 1 = .ok (.getfield 102, 3) := by decide +kernel
theorem b17_4_5 : oBlk prog_24_method_11_code 4 [.aload_n 2] = some 5 := by decide +kernel
theorem d17_5 : decode prog_24_method_11_code 5 = .ok (.invokestatic 105, 3) := by decide +kernel
theorem pd_7 : parseMethodDescriptor "([I)I" = some ⟨[(.array .int)], some .int⟩ := by decide +kernel
theorem b17_8_9 : oBlk prog_24_method_11_code 8 [.aload_n 1] = some 9 := by decide +kernel
theorem d17_9 : decode prog_24_method_11_code 9 = .ok (.getfield 102, 3) := by decide +kernel
theorem d17_12 : decode prog_24_method_11_code 12 = .ok (.arraylength, 1) := by decide +kernel
theorem d17_13 : decode prog_24_method_11_code 13 = .ok (.invokestatic 109, 3) := by decide +kernel
theorem d17_16 : decode prog_24_method_11_code 16 = .ok (.iaload, 1) := by decide +kernel
theorem b17_17_19 : oBlk prog_24_method_11_code 17 [.istore 4] = some 19 := by decide +kernel
theorem b17_19_22 : oBlk prog_24_method_11_code 19 [.iload 4, .iconst (-1)] = some 22 := by decide +kernel
theorem d17_22 : decode prog_24_method_11_code 22 = .ok (.if_icmp .eq 31, 3) := by decide +kernel
theorem b17_53_55 : oBlk prog_24_method_11_code 53 [.iload 4] = some 55 := by decide +kernel
theorem d17_55 : decode prog_24_method_11_code 55 = .ok (.ireturn, 1) := by decide +kernel
theorem b17_25_28 : oBlk prog_24_method_11_code 25 [.iload 4, .iload_n 3] = some 28 := by decide +kernel
theorem d17_28 : decode prog_24_method_11_code 28 = .ok (.if_icmp .ge 13, 3) := by decide +kernel
theorem b17_31_35 : oBlk prog_24_method_11_code 31 [.aload_n 1, .iload 4, .aload_n 2] = some 35 := by decide +kernel
theorem d17_35 : decode prog_24_method_11_code 35 = .ok (.invokevirtual 112, 3) := by decide +kernel
theorem pd_8 : parseMethodDescriptor "(I[I)Z" = some ⟨[.int, (.array .int)], some .boolean⟩ := by decide +kernel
theorem d17_38 : decode prog_24_method_11_code 38 = .ok (.ifCond .ne 15, 3) := by decide +kernel
theorem b17_41_42 : oBlk prog_24_method_11_code 41 [.aload_n 1] = some 42 := by decide +kernel
theorem d17_42 : decode prog_24_method_11_code 42 = .ok (.getfield 116, 3) := by decide +kernel
theorem b17_45_47 : oBlk prog_24_method_11_code 45 [.iload 4] = some 47 := by decide +kernel
theorem d17_47 : decode prog_24_method_11_code 47 = .ok (.iaload, 1) := by decide +kernel
theorem b17_48_50 : oBlk prog_24_method_11_code 48 [.istore 4] = some 50 := by decide +kernel
theorem d17_50 : decode prog_24_method_11_code 50 = .ok (.goto (-31), 3) := by decide +kernel
theorem b25_0_2 : oBlk prog_25_method_2_code 0 [.iload_n 1, .aload_n 0] = some 2 := by decide +kernel
theorem d25_2 : decode prog_25_method_2_code 2 = .ok (.getfield 19, 3) := by decide +kernel
theorem d25_5 : decode prog_25_method_2_code 5 = .ok (.arraylength, 1) := by decide +kernel
theorem d25_6 : decode prog_25_method_2_code 6 = .ok (.if_icmp .lt 27, 3) := by decide +kernel
theorem b25_33_35 : oBlk prog_25_method_2_code 33 [.aload_n 0, .dup] = some 35 := by decide +kernel
theorem d25_35 : decode prog_25_method_2_code 35 = .ok (.getfield 46, 3) := by decide +kernel
theorem b25_38_40 : oBlk prog_25_method_2_code 38 [.iconst 1, .iadd] = some 40 := by decide +kernel
theorem b25_40_41 : oBlk prog_25_method_2_code 40 [.dup_x1] = some 41 := by decide +kernel
theorem d25_41 : decode prog_25_method_2_code 41 = .ok (.putfield 46, 3) := by decide +kernel
theorem b25_44_45 : oBlk prog_25_method_2_code 44 [.aload_n 0] = some 45 := by decide +kernel
theorem d25_45 : decode prog_25_method_2_code 45 = .ok (.getfield 15, 3) := by decide +kernel
theorem d25_48 : decode prog_25_method_2_code 48 = .ok (.arraylength, 1) := by decide +kernel
theorem b25_49_50 : oBlk prog_25_method_2_code 49 [.iconst 4] = some 50 := by decide +kernel
theorem d25_50 : decode prog_25_method_2_code 50 = .ok (.idiv, 1) := by decide +kernel
theorem b25_51_53 : oBlk prog_25_method_2_code 51 [.iconst 3, .imul] = some 53 := by decide +kernel
theorem d25_53 : decode prog_25_method_2_code 53 = .ok (.if_icmp .le 9, 3) := by decide +kernel
theorem b25_62_64 : oBlk prog_25_method_2_code 62 [.aload_n 0, .iload_n 1] = some 64 := by decide +kernel
theorem d25_64 : decode prog_25_method_2_code 64 = .ok (.invokevirtual 54, 3) := by decide +kernel
theorem pd_9 : parseMethodDescriptor "(I)I" = some ⟨[.int], some .int⟩ := by decide +kernel
theorem b25_67_68 : oBlk prog_25_method_2_code 67 [.aload_n 0] = some 68 := by decide +kernel
theorem d25_68 : decode prog_25_method_2_code 68 = .ok (.getfield 15, 3) := by decide +kernel
theorem d25_71 : decode prog_25_method_2_code 71 = .ok (.arraylength, 1) := by decide +kernel
theorem d25_72 : decode prog_25_method_2_code 72 = .ok (.invokestatic 58, 3) := by decide +kernel
theorem b25_75_76 : oBlk prog_25_method_2_code 75 [.istore_n 2] = some 76 := by decide +kernel
theorem b25_76_77 : oBlk prog_25_method_2_code 76 [.aload_n 0] = some 77 := by decide +kernel
theorem d25_77 : decode prog_25_method_2_code 77 = .ok (.getfield 19, 3) := by decide +kernel
theorem b25_80_82 : oBlk prog_25_method_2_code 80 [.iload_n 1, .aload_n 0] = some 82 := by decide +kernel
theorem d25_82 : decode prog_25_method_2_code 82 = .ok (.getfield 15, 3) := by decide +kernel
theorem b25_85_86 : oBlk prog_25_method_2_code 85 [.iload_n 2] = some 86 := by decide +kernel
theorem d25_86 : decode prog_25_method_2_code 86 = .ok (.iaload, 1) := by decide +kernel
theorem d25_87 : decode prog_25_method_2_code 87 = .ok (.iastore, 1) := by decide +kernel
theorem b25_88_89 : oBlk prog_25_method_2_code 88 [.aload_n 0] = some 89 := by decide +kernel
theorem d25_89 : decode prog_25_method_2_code 89 = .ok (.getfield 15, 3) := by decide +kernel
theorem b25_92_94 : oBlk prog_25_method_2_code 92 [.iload_n 2, .iload_n 1] = some 94 := by decide +kernel
theorem d25_94 : decode prog_25_method_2_code 94 = .ok (.iastore, 1) := by decide +kernel
theorem d25_95 : decode prog_25_method_2_code 95 = .ok (.return_, 1) := by decide +kernel
theorem b21_0_2 : oBlk jdk_49_method_1_code 0 [.aload_n 0, .aload_n 1] = some 2 := by decide +kernel
theorem d21_2 : decode jdk_49_method_1_code 2 = .ok (.putfield 1, 3) := by decide +kernel
theorem b21_5_6 : oBlk jdk_49_method_1_code 5 [.aload_n 0] = some 6 := by decide +kernel
theorem d21_6 : decode jdk_49_method_1_code 6 = .ok (.invokespecial 7, 3) := by decide +kernel
theorem b21_9_11 : oBlk jdk_49_method_1_code 9 [.aload_n 0, .iconst (-1)] = some 11 := by decide +kernel
theorem d21_11 : decode jdk_49_method_1_code 11 = .ok (.putfield 13, 3) := by decide +kernel
theorem b21_14_16 : oBlk jdk_49_method_1_code 14 [.aload_n 0, .aload_n 0] = some 16 := by decide +kernel
theorem d21_16 : decode jdk_49_method_1_code 16 = .ok (.getfield 1, 3) := by decide +kernel
theorem d21_19 : decode jdk_49_method_1_code 19 = .ok (.getfield 17, 3) := by decide +kernel
theorem d21_22 : decode jdk_49_method_1_code 22 = .ok (.putfield 22, 3) := by decide +kernel
theorem d21_25 : decode jdk_49_method_1_code 25 = .ok (.return_, 1) := by decide +kernel
theorem pn_6 : plainName "java/util/ArrayList$Itr" = true := by first | (simp [plainName, overriddenIn]; done) | decide +kernel
theorem d20_0 : decode jdk_38_method_55_code 0 = .ok (.new 267, 3) := by decide +kernel
theorem b20_3_5 : oBlk jdk_38_method_55_code 3 [.dup, .aload_n 0] = some 5 := by decide +kernel
theorem d20_5 : decode jdk_38_method_55_code 5 = .ok (.invokespecial 269, 3) := by decide +kernel
theorem pd_10 : parseMethodDescriptor "(Ljava/util/ArrayList;)V" = some ⟨[(.object "java/util/ArrayList")], none⟩ := by decide +kernel
theorem d20_8 : decode jdk_38_method_55_code 8 = .ok (.areturn, 1) := by decide +kernel
theorem b22_0_1 : oBlk jdk_49_method_2_code 0 [.aload_n 0] = some 1 := by decide +kernel
theorem d22_1 : decode jdk_49_method_2_code 1 = .ok (.getfield 25, 3) := by decide +kernel
theorem b22_4_5 : oBlk jdk_49_method_2_code 4 [.aload_n 0] = some 5 := by decide +kernel
theorem d22_5 : decode jdk_49_method_2_code 5 = .ok (.getfield 1, 3) := by decide +kernel
theorem d22_8 : decode jdk_49_method_2_code 8 = .ok (.getfield 28, 3) := by decide +kernel
theorem d22_11 : decode jdk_49_method_2_code 11 = .ok (.if_icmp .eq 7, 3) := by decide +kernel
theorem b22_14_15 : oBlk jdk_49_method_2_code 14 [.iconst 1] = some 15 := by decide +kernel
theorem d22_15 : decode jdk_49_method_2_code 15 = .ok (.goto 4, 3) := by decide +kernel
theorem d22_19 : decode jdk_49_method_2_code 19 = .ok (.ireturn, 1) := by decide +kernel
theorem b22_18_19 : oBlk jdk_49_method_2_code 18 [.iconst 0] = some 19 := by decide +kernel
theorem b24_0_1 : oBlk jdk_49_method_6_code 0 [.aload_n 0] = some 1 := by decide +kernel
theorem d24_1 : decode jdk_49_method_6_code 1 = .ok (.getfield 1, 3) := by decide +kernel
theorem d24_4 : decode jdk_49_method_6_code 4 = .ok (.getfield 17, 3) := by decide +kernel
theorem b24_7_8 : oBlk jdk_49_method_6_code 7 [.aload_n 0] = some 8 := by decide +kernel
theorem d24_8 : decode jdk_49_method_6_code 8 = .ok (.getfield 22, 3) := by decide +kernel
theorem d24_11 : decode jdk_49_method_6_code 11 = .ok (.if_icmp .eq 11, 3) := by decide +kernel
theorem d24_22 : decode jdk_49_method_6_code 22 = .ok (.return_, 1) := by decide +kernel
theorem b23_0_1 : oBlk jdk_49_method_3_code 0 [.aload_n 0] = some 1 := by decide +kernel
theorem d23_1 : decode jdk_49_method_3_code 1 = .ok (.invokevirtual 31, 3) := by decide +kernel
theorem b23_4_5 : oBlk jdk_49_method_3_code 4 [.aload_n 0] = some 5 := by decide +kernel
theorem d23_5 : decode jdk_49_method_3_code 5 = .ok (.getfield 25, 3) := by decide +kernel
theorem b23_8_9 : oBlk jdk_49_method_3_code 8 [.istore_n 1] = some 9 := by decide +kernel
theorem b23_9_11 : oBlk jdk_49_method_3_code 9 [.iload_n 1, .aload_n 0] = some 11 := by decide +kernel
theorem d23_11 : decode jdk_49_method_3_code 11 = .ok (.getfield 1, 3) := by decide +kernel
theorem d23_14 : decode jdk_49_method_3_code 14 = .ok (.getfield 28, 3) := by decide +kernel
theorem d23_17 : decode jdk_49_method_3_code 17 = .ok (.if_icmp .lt 11, 3) := by decide +kernel
theorem b23_28_29 : oBlk jdk_49_method_3_code 28 [.aload_n 0] = some 29 := by decide +kernel
theorem d23_29 : decode jdk_49_method_3_code 29 = .ok (.getfield 1, 3) := by decide +kernel
theorem d23_32 : decode jdk_49_method_3_code 32 = .ok (.getfield 37, 3) := by decide +kernel
theorem b23_35_36 : oBlk jdk_49_method_3_code 35 [.astore_n 2] = some 36 := by decide +kernel
theorem b23_36_38 : oBlk jdk_49_method_3_code 36 [.iload_n 1, .aload_n 2] = some 38 := by decide +kernel
theorem d23_38 : decode jdk_49_method_3_code 38 = .ok (.arraylength, 1) := by decide +kernel
theorem d23_39 : decode jdk_49_method_3_code 39 = .ok (.if_icmp .lt 11, 3) := by decide +kernel
theorem b23_50_54 : oBlk jdk_49_method_3_code 50 [.aload_n 0, .iload_n 1, .iconst 1, .iadd] = some 54 := by decide +kernel
theorem d23_54 : decode jdk_49_method_3_code 54 = .ok (.putfield 25, 3) := by decide +kernel
theorem b23_57_61 : oBlk jdk_49_method_3_code 57 [.aload_n 2, .aload_n 0, .iload_n 1, .dup_x1] = some 61 := by decide +kernel
theorem d23_61 : decode jdk_49_method_3_code 61 = .ok (.putfield 13, 3) := by decide +kernel
theorem d23_64 : decode jdk_49_method_3_code 64 = .ok (.aaload, 1) := by decide +kernel
theorem d23_65 : decode jdk_49_method_3_code 65 = .ok (.areturn, 1) := by decide +kernel
theorem b13_0_1 : oBlk prog_24_method_4_code 0 [.aload_n 0] = some 1 := by decide +kernel
theorem d13_1 : decode prog_24_method_4_code 1 = .ok (.getfield 50, 3) := by decide +kernel
theorem d13_4 : decode prog_24_method_4_code 4 = .ok (.ireturn, 1) := by decide +kernel
theorem b14_0_1 : oBlk prog_24_method_5_code 0 [.aload_n 0] = some 1 := by decide +kernel
theorem d14_1 : decode prog_24_method_5_code 1 = .ok (.getfield 53, 3) := by decide +kernel
theorem d14_4 : decode prog_24_method_5_code 4 = .ok (.ireturn, 1) := by decide +kernel
theorem b15_0_1 : oBlk prog_24_method_3_code 0 [.aload_n 0] = some 1 := by decide +kernel
theorem d15_1 : decode prog_24_method_3_code 1 = .ok (.getfield 47, 3) := by decide +kernel
theorem d15_4 : decode prog_24_method_3_code 4 = .ok (.ireturn, 1) := by decide +kernel
theorem b12_0_2 : oBlk prog_24_method_6_code 0 [.aload_n 0, .aload_n 0] = some 2 := by decide +kernel
theorem d12_2 : decode prog_24_method_6_code 2 = .ok (.getfield 53, 3) := by decide +kernel
theorem d12_5 : decode prog_24_method_6_code 5 = .ok (.putfield 50, 3) := by decide +kernel
theorem b12_8_10 : oBlk prog_24_method_6_code 8 [.aload_n 0, .aload_n 0] = some 10 := by decide +kernel
theorem d12_10 : decode prog_24_method_6_code 10 = .ok (.getfield 47, 3) := by decide +kernel
theorem d12_13 : decode prog_24_method_6_code 13 = .ok (.putfield 53, 3) := by decide +kernel
theorem d12_16 : decode prog_24_method_6_code 16 = .ok (.return_, 1) := by decide +kernel
theorem b16_0_2 : oBlk prog_24_method_8_code 0 [.aload_n 0, .aload_n 0] = some 2 := by decide +kernel
theorem d16_2 : decode prog_24_method_8_code 2 = .ok (.getfield 37, 3) := by decide +kernel
theorem b16_5_7 : oBlk prog_24_method_8_code 5 [.aload_n 1, .aload_n 0] = some 7 := by decide +kernel
theorem d16_7 : decode prog_24_method_8_code 7 = .ok (.getfield 47, 3) := by decide +kernel
theorem d16_10 : decode prog_24_method_8_code 10 = .ok (.invokevirtual 56, 3) := by decide +kernel
theorem pd_11 : parseMethodDescriptor "(Lcom/example/mild_horn/mildhorn/datalog/Relation$Index;[II)I" = some ⟨[(.object "com/example/mild_horn/mildhorn/datalog/Relation$Index"), (.array .int), .int], some .int⟩ := by decide +kernel
theorem b16_13_14 : oBlk prog_24_method_8_code 13 [.iconst (-1)] = some 14 := by decide +kernel
theorem d16_14 : decode prog_24_method_8_code 14 = .ok (.if_icmp .eq 5, 3) := by decide +kernel
theorem b16_19_20 : oBlk prog_24_method_8_code 19 [.aload_n 0] = some 20 := by decide +kernel
theorem d16_20 : decode prog_24_method_8_code 20 = .ok (.getfield 47, 3) := by decide +kernel
theorem b16_23_26 : oBlk prog_24_method_8_code 23 [.iconst 1, .iadd, .aload_n 0] = some 26 := by decide +kernel
theorem d16_26 : decode prog_24_method_8_code 26 = .ok (.getfield 18, 3) := by decide +kernel
theorem b16_29_31 : oBlk prog_24_method_8_code 29 [.imul, .aload_n 0] = some 31 := by decide +kernel
theorem d16_31 : decode prog_24_method_8_code 31 = .ok (.getfield 28, 3) := by decide +kernel
theorem d16_34 : decode prog_24_method_8_code 34 = .ok (.arraylength, 1) := by decide +kernel
theorem d16_35 : decode prog_24_method_8_code 35 = .ok (.if_icmp .le 21, 3) := by decide +kernel
theorem b16_56_59 : oBlk prog_24_method_8_code 56 [.aload_n 1, .iconst 0, .aload_n 0] = some 59 := by decide +kernel
theorem d16_59 : decode prog_24_method_8_code 59 = .ok (.getfield 28, 3) := by decide +kernel
theorem b16_62_63 : oBlk prog_24_method_8_code 62 [.aload_n 0] = some 63 := by decide +kernel
theorem d16_63 : decode prog_24_method_8_code 63 = .ok (.getfield 47, 3) := by decide +kernel
theorem b16_66_67 : oBlk prog_24_method_8_code 66 [.aload_n 0] = some 67 := by decide +kernel
theorem d16_67 : decode prog_24_method_8_code 67 = .ok (.getfield 18, 3) := by decide +kernel
theorem b16_70_72 : oBlk prog_24_method_8_code 70 [.imul, .aload_n 0] = some 72 := by decide +kernel
theorem d16_72 : decode prog_24_method_8_code 72 = .ok (.getfield 18, 3) := by decide +kernel
theorem d16_75 : decode prog_24_method_8_code 75 = .ok (.invokestatic 66, 3) := by decide +kernel
theorem b16_78_80 : oBlk prog_24_method_8_code 78 [.aload_n 0, .dup] = some 80 := by decide +kernel
theorem d16_80 : decode prog_24_method_8_code 80 = .ok (.getfield 47, 3) := by decide +kernel
theorem b16_83_86 : oBlk prog_24_method_8_code 83 [.dup_x1, .iconst 1, .iadd] = some 86 := by decide +kernel
theorem d16_86 : decode prog_24_method_8_code 86 = .ok (.putfield 47, 3) := by decide +kernel
theorem b16_89_90 : oBlk prog_24_method_8_code 89 [.istore_n 2] = some 90 := by decide +kernel
theorem b16_90_91 : oBlk prog_24_method_8_code 90 [.aload_n 0] = some 91 := by decide +kernel
theorem d16_91 : decode prog_24_method_8_code 91 = .ok (.getfield 12, 3) := by decide +kernel
theorem d16_94 : decode prog_24_method_8_code 94 = .ok (.invokeinterface 72 1, 5) := by decide +kernel
theorem pd_12 : parseMethodDescriptor "()Ljava/util/Iterator;" = some ⟨[], some (.object "java/util/Iterator")⟩ := by decide +kernel
theorem b16_99_100 : oBlk prog_24_method_8_code 99 [.astore_n 3] = some 100 := by decide +kernel
theorem b16_100_101 : oBlk prog_24_method_8_code 100 [.aload_n 3] = some 101 := by decide +kernel
theorem d16_101 : decode prog_24_method_8_code 101 = .ok (.invokeinterface 76 1, 5) := by decide +kernel
theorem pd_13 : parseMethodDescriptor "()Z" = some ⟨[], some .boolean⟩ := by decide +kernel
theorem d16_106 : decode prog_24_method_8_code 106 = .ok (.ifCond .eq 23, 3) := by decide +kernel
theorem b16_109_110 : oBlk prog_24_method_8_code 109 [.aload_n 3] = some 110 := by decide +kernel
theorem d16_110 : decode prog_24_method_8_code 110 = .ok (.invokeinterface 82 1, 5) := by decide +kernel
theorem pd_14 : parseMethodDescriptor "()Ljava/lang/Object;" = some ⟨[], some (.object "java/lang/Object")⟩ := by decide +kernel
theorem d16_115 : decode prog_24_method_8_code 115 = .ok (.checkcast 32, 3) := by decide +kernel
theorem b16_118_120 : oBlk prog_24_method_8_code 118 [.astore 4] = some 120 := by decide +kernel
theorem b16_120_123 : oBlk prog_24_method_8_code 120 [.aload 4, .iload_n 2] = some 123 := by decide +kernel
theorem d16_123 : decode prog_24_method_8_code 123 = .ok (.invokevirtual 86, 3) := by decide +kernel
theorem d16_126 : decode prog_24_method_8_code 126 = .ok (.goto (-26), 3) := by decide +kernel
theorem b16_129_130 : oBlk prog_24_method_8_code 129 [.iconst 1] = some 130 := by decide +kernel
theorem d16_130 : decode prog_24_method_8_code 130 = .ok (.ireturn, 1) := by decide +kernel
theorem b16_17_18 : oBlk prog_24_method_8_code 17 [.iconst 0] = some 18 := by decide +kernel
theorem d16_18 : decode prog_24_method_8_code 18 = .ok (.ireturn, 1) := by decide +kernel
theorem b11_0_1 : oBlk method_2_code 0 [.iload_n 1] = some 1 := by decide +kernel
theorem d11_1 : decode method_2_code 1 = .ok (.ifCond .ne 5, 3) := by decide +kernel
theorem b11_6_8 : oBlk method_2_code 6 [.aload_n 0, .aload_n 2] = some 8 := by decide +kernel
theorem d11_8 : decode method_2_code 8 = .ok (.invokevirtual 7, 3) := by decide +kernel
theorem pd_15 : parseMethodDescriptor "([I)Z" = some ⟨[(.array .int)], some .boolean⟩ := by decide +kernel
theorem d11_11 : decode method_2_code 11 = .ok (.ifCond .eq 7, 3) := by decide +kernel
theorem b11_18_19 : oBlk method_2_code 18 [.iconst 0] = some 19 := by decide +kernel
theorem d11_19 : decode method_2_code 19 = .ok (.ireturn, 1) := by decide +kernel
theorem b11_14_15 : oBlk method_2_code 14 [.iconst 1] = some 15 := by decide +kernel
theorem d11_15 : decode method_2_code 15 = .ok (.goto 4, 3) := by decide +kernel
theorem b11_4_5 : oBlk method_2_code 4 [.iconst 0] = some 5 := by decide +kernel
theorem d11_5 : decode method_2_code 5 = .ok (.ireturn, 1) := by decide +kernel
theorem pn_7 : plainName "com/example/mild_horn/mildhorn/datalog/RelationStartRoundPinLaw" = true := by first | (simp [plainName, overriddenIn]; done) | decide +kernel
theorem b0_0_1 : oBlk code 0 [.iconst 1] = some 1 := by decide +kernel
theorem d0_1 : decode code 1 = .ok (.newarray .int, 2) := by decide +kernel
theorem b0_3_6 : oBlk code 3 [.dup, .iconst 0, .iload_n 0] = some 6 := by decide +kernel
theorem d0_6 : decode code 6 = .ok (.iastore, 1) := by decide +kernel
theorem b0_7_9 : oBlk code 7 [.astore 5] = some 9 := by decide +kernel
theorem b0_9_10 : oBlk code 9 [.iconst 1] = some 10 := by decide +kernel
theorem d0_10 : decode code 10 = .ok (.newarray .int, 2) := by decide +kernel
theorem b0_12_15 : oBlk code 12 [.dup, .iconst 0, .iload_n 1] = some 15 := by decide +kernel
theorem d0_15 : decode code 15 = .ok (.iastore, 1) := by decide +kernel
theorem b0_16_18 : oBlk code 16 [.astore 6] = some 18 := by decide +kernel
theorem b0_18_19 : oBlk code 18 [.iconst 1] = some 19 := by decide +kernel
theorem d0_19 : decode code 19 = .ok (.newarray .int, 2) := by decide +kernel
theorem b0_21_24 : oBlk code 21 [.dup, .iconst 0, .iload_n 2] = some 24 := by decide +kernel
theorem d0_24 : decode code 24 = .ok (.iastore, 1) := by decide +kernel
theorem b0_25_27 : oBlk code 25 [.astore 7] = some 27 := by decide +kernel
theorem b0_27_28 : oBlk code 27 [.iconst 1] = some 28 := by decide +kernel
theorem d0_28 : decode code 28 = .ok (.newarray .int, 2) := by decide +kernel
theorem b0_30_33 : oBlk code 30 [.dup, .iconst 0, .iload_n 3] = some 33 := by decide +kernel
theorem d0_33 : decode code 33 = .ok (.iastore, 1) := by decide +kernel
theorem b0_34_36 : oBlk code 34 [.astore 8] = some 36 := by decide +kernel
theorem d0_36 : decode code 36 = .ok (.new 8, 3) := by decide +kernel
theorem b0_39_41 : oBlk code 39 [.dup, .iconst 1] = some 41 := by decide +kernel
theorem d0_41 : decode code 41 = .ok (.invokespecial 13, 3) := by decide +kernel
theorem b0_44_46 : oBlk code 44 [.astore 9] = some 46 := by decide +kernel
theorem b0_46_52 : oBlk code 46 [.aload 9, .iload 4, .iconst 1, .iand] = some 52 := by decide +kernel
theorem d0_52 : decode code 52 = .ok (.ifCond .eq 7, 3) := by decide +kernel
theorem b0_60_62 : oBlk code 60 [.aload 5] = some 62 := by decide +kernel
theorem d0_62 : decode code 62 = .ok (.invokestatic 16, 3) := by decide +kernel
theorem pd_16 : parseMethodDescriptor "(Lcom/example/mild_horn/mildhorn/datalog/Relation;Z[I)I" = some ⟨[(.object "com/example/mild_horn/mildhorn/datalog/Relation"), .boolean, (.array .int)], some .int⟩ := by decide +kernel
theorem b0_65_71 : oBlk code 65 [.aload 9, .iload 4, .iconst 2, .iand] = some 71 := by decide +kernel
theorem d0_71 : decode code 71 = .ok (.ifCond .eq 7, 3) := by decide +kernel
theorem b0_79_81 : oBlk code 79 [.aload 6] = some 81 := by decide +kernel
theorem d0_81 : decode code 81 = .ok (.invokestatic 16, 3) := by decide +kernel
theorem b0_84_85 : oBlk code 84 [.iadd] = some 85 := by decide +kernel
theorem b0_85_87 : oBlk code 85 [.istore 10] = some 87 := by decide +kernel
theorem b0_87_89 : oBlk code 87 [.aload 9] = some 89 := by decide +kernel
theorem d0_89 : decode code 89 = .ok (.invokevirtual 22, 3) := by decide +kernel
theorem b0_92_94 : oBlk code 92 [.aload 9] = some 94 := by decide +kernel
theorem d0_94 : decode code 94 = .ok (.invokevirtual 25, 3) := by decide +kernel
theorem pd_17 : parseMethodDescriptor "()I" = some ⟨[], some .int⟩ := by decide +kernel
theorem d0_97 : decode code 97 = .ok (.ifCond .ne 17, 3) := by decide +kernel
theorem b0_100_102 : oBlk code 100 [.aload 9] = some 102 := by decide +kernel
theorem d0_102 : decode code 102 = .ok (.invokevirtual 29, 3) := by decide +kernel
theorem b0_105_107 : oBlk code 105 [.iload 10] = some 107 := by decide +kernel
theorem d0_107 : decode code 107 = .ok (.if_icmp .ne 7, 3) := by decide +kernel
theorem b0_110_111 : oBlk code 110 [.iconst 1] = some 111 := by decide +kernel
theorem d0_111 : decode code 111 = .ok (.goto 4, 3) := by decide +kernel
theorem b0_115_117 : oBlk code 115 [.istore 11] = some 117 := by decide +kernel
theorem b0_117_125 : oBlk code 117 [.iload 10, .aload 9, .iload 4, .iconst 4, .iand] = some 125 := by decide +kernel
theorem d0_125 : decode code 125 = .ok (.ifCond .eq 7, 3) := by decide +kernel
theorem b0_133_135 : oBlk code 133 [.aload 7] = some 135 := by decide +kernel
theorem d0_135 : decode code 135 = .ok (.invokestatic 16, 3) := by decide +kernel
theorem b0_138_139 : oBlk code 138 [.iadd] = some 139 := by decide +kernel
theorem b0_139_146 : oBlk code 139 [.aload 9, .iload 4, .bipush 8, .iand] = some 146 := by decide +kernel
theorem d0_146 : decode code 146 = .ok (.ifCond .eq 7, 3) := by decide +kernel
theorem b0_154_156 : oBlk code 154 [.aload 8] = some 156 := by decide +kernel
theorem d0_156 : decode code 156 = .ok (.invokestatic 16, 3) := by decide +kernel
theorem b0_159_160 : oBlk code 159 [.iadd] = some 160 := by decide +kernel
theorem b0_160_162 : oBlk code 160 [.istore 12] = some 162 := by decide +kernel
theorem b0_162_164 : oBlk code 162 [.aload 9] = some 164 := by decide +kernel
theorem d0_164 : decode code 164 = .ok (.invokevirtual 22, 3) := by decide +kernel
theorem b0_167_169 : oBlk code 167 [.aload 9] = some 169 := by decide +kernel
theorem d0_169 : decode code 169 = .ok (.invokevirtual 25, 3) := by decide +kernel
theorem b0_172_174 : oBlk code 172 [.iload 10] = some 174 := by decide +kernel
theorem d0_174 : decode code 174 = .ok (.if_icmp .ne 27, 3) := by decide +kernel
theorem b0_177_179 : oBlk code 177 [.aload 9] = some 179 := by decide +kernel
theorem d0_179 : decode code 179 = .ok (.invokevirtual 29, 3) := by decide +kernel
theorem b0_182_184 : oBlk code 182 [.iload 12] = some 184 := by decide +kernel
theorem d0_184 : decode code 184 = .ok (.if_icmp .ne 17, 3) := by decide +kernel
theorem b0_187_189 : oBlk code 187 [.aload 9] = some 189 := by decide +kernel
theorem d0_189 : decode code 189 = .ok (.invokevirtual 32, 3) := by decide +kernel
theorem b0_192_194 : oBlk code 192 [.iload 12] = some 194 := by decide +kernel
theorem d0_194 : decode code 194 = .ok (.if_icmp .ne 7, 3) := by decide +kernel
theorem b0_197_198 : oBlk code 197 [.iconst 1] = some 198 := by decide +kernel
theorem d0_198 : decode code 198 = .ok (.goto 4, 3) := by decide +kernel
theorem b0_202_204 : oBlk code 202 [.istore 13] = some 204 := by decide +kernel
theorem b0_204_206 : oBlk code 204 [.iload 11] = some 206 := by decide +kernel
theorem d0_206 : decode code 206 = .ok (.ifCond .eq 12, 3) := by decide +kernel
theorem b0_209_211 : oBlk code 209 [.iload 13] = some 211 := by decide +kernel
theorem d0_211 : decode code 211 = .ok (.ifCond .eq 7, 3) := by decide +kernel
theorem b0_214_215 : oBlk code 214 [.iconst 1] = some 215 := by decide +kernel
theorem d0_215 : decode code 215 = .ok (.goto 4, 3) := by decide +kernel
theorem d0_219 : decode code 219 = .ok (.ireturn, 1) := by decide +kernel
theorem b0_153_154 : oBlk code 153 [.iconst 0] = some 154 := by decide +kernel
theorem b0_149_150 : oBlk code 149 [.iconst 1] = some 150 := by decide +kernel
theorem d0_150 : decode code 150 = .ok (.goto 4, 3) := by decide +kernel
theorem b0_132_133 : oBlk code 132 [.iconst 0] = some 133 := by decide +kernel
theorem b0_128_129 : oBlk code 128 [.iconst 1] = some 129 := by decide +kernel
theorem d0_129 : decode code 129 = .ok (.goto 4, 3) := by decide +kernel
theorem b0_78_79 : oBlk code 78 [.iconst 0] = some 79 := by decide +kernel
theorem b0_74_75 : oBlk code 74 [.iconst 1] = some 75 := by decide +kernel
theorem d0_75 : decode code 75 = .ok (.goto 4, 3) := by decide +kernel
theorem b0_59_60 : oBlk code 59 [.iconst 0] = some 60 := by decide +kernel
theorem b0_55_56 : oBlk code 55 [.iconst 1] = some 56 := by decide +kernel
theorem d0_56 : decode code 56 = .ok (.goto 4, 3) := by decide +kernel
set_option maxRecDepth 65536 in
set_option maxHeartbeats 40000000 in
theorem rm_max (l : Launch) (Z : State) (a0 : Array Value) (hw : ∀ d ∈ tables_1, d.before a0 Z = true) (p1 p2 : Int32) (h0 : Heap) (hE0 : Ext Z.heap h0)  :
    OCtr l Z (⟨"java/lang/Math", "max", "(II)I"⟩ : MethodName) jdk_29_method_65_code 2 (some .int) ({ frames := 0, cells := 0, slots := 0, locals := 0 } : Room) #[(.int p1), (.int p2)] h0 (fun v h => v = some (.int (if p1 < p2 then p2 else p1)) ∧ h0 = h) := by
  refine o_body (ls0 := #[.val (.int p1), .val (.int p2)]) (Jvm.Free.JP.mathPlain rfl (by decide +kernel)) hE0 (fun m => by first | (simp [entryFrame, mkF, argsToLocals, Value.category]; done) | rfl) ?_
  intro pG eG sG mG bG meG cG
  refine o_blk (pc' := 2) (st' := [(.int p2), (.int p1)]) (ls' := #[.val (.int p1), .val (.int p2)]) b6_0_2 rfl ?_
  refine o_ic (pc' := 9) (pc'' := 5) d6_2 (by decide) (by decide) rfl (fun (hc2_1 : p1 < p2) => ?_) (fun (hc2_1 : ¬ p1 < p2) => ?_)
  ·
    refine o_blk (pc' := 10) (st' := [(.int p2)]) (ls' := #[.val (.int p1), .val (.int p2)]) b6_9_10 rfl ?_
    exact o_retI d6_10 (by decide) (by decide) rfl ⟨by simp [*], rfl⟩
  ·
    refine o_blk (pc' := 6) (st' := [(.int p1)]) (ls' := #[.val (.int p1), .val (.int p2)]) b6_5_6 rfl ?_
    refine o_goto (pc' := 10) d6_6 (by decide) (by decide) ?_
    exact o_retI d6_10 (by decide) (by decide) rfl ⟨by simp [*], rfl⟩
set_option maxRecDepth 65536 in
set_option maxHeartbeats 40000000 in
theorem rm_acol (l : Launch) (Z : State) (a0 : Array Value) (hw : ∀ d ∈ tables_1, d.before a0 Z = true) (a : Addr) (h0 : Heap) (hE0 : Ext Z.heap h0)  :
    OCtr l Z (⟨"java/util/AbstractCollection", "<init>", "()V"⟩ : MethodName) jdk_22_method_1_code 1 none ({ frames := 1, cells := 0, slots := 0, locals := 12 } : Room) #[(.ref a)] h0 (fun v h => v = none ∧ h0 = h) := by
  refine o_body (ls0 := #[.val (.ref a)]) (plainFor_of_name pn_0) hE0 (fun m => by first | (simp [entryFrame, mkF, argsToLocals, Value.category]; done) | rfl) ?_
  intro pG eG sG mG bG meG cG
  refine o_blk (pc' := 1) (st' := [(.ref a)]) (ls' := #[.val (.ref a)]) b5_0_1 rfl ?_
  refine o_initO (W := 0) (pc' := 4) (own_word hw 28 rfl) (own_word hw 8 rfl) (own_word hw 9 rfl) d5_1 rfl (Nat.le_of_eq rfl) (by decide) (by decide) rfl ?_
  exact o_retV d5_4 (by decide) (by decide) rfl ⟨rfl, rfl⟩
set_option maxRecDepth 65536 in
set_option maxHeartbeats 40000000 in
theorem rm_abl (l : Launch) (Z : State) (a0 : Array Value) (hw : ∀ d ∈ tables_1, d.before a0 Z = true)  (h0 : Heap) (hE0 : Ext Z.heap h0) (a : Addr) (x : Int32) (E_a : Exa Z h0 a "java/util/ArrayList") (F_a_modCount : Fld Z h0 a "java/util/AbstractList" "modCount" "I" (.int x)) (N_a : Z.heap.size ≤ a) :
    OCtr l Z (⟨"java/util/AbstractList", "<init>", "()V"⟩ : MethodName) jdk_39_method_1_code 1 none ({ frames := 2, cells := 0, slots := 0, locals := 24 } : Room) #[(.ref a)] h0 (fun v h => v = none ∧ Wr h0 h a (Jvm.RoadKit.slotOf Z "java/util/AbstractList" "modCount" "I") (.int 0)) := by
  refine o_body (ls0 := #[.val (.ref a)]) (plainFor_of_name pn_1) hE0 (fun m => by first | (simp [entryFrame, mkF, argsToLocals, Value.category]; done) | rfl) ?_
  intro pG eG sG mG bG meG cG
  refine o_blk (pc' := 1) (st' := [(.ref a)]) (ls' := #[.val (.ref a)]) b4_0_1 rfl ?_
  refine o_callI (W := 0) (argsL := []) (rest := []) (pc' := 4) rfl (own_word hw 22 rfl) (own_word hw 23 rfl) (own_word hw 27 rfl) (own_word hw 26 rfl) (by decide) (fun hE => rm_acol l Z a0 hw a h0 hE) d4_1 pd_0 rfl rfl rfl (Nat.le_of_eq rfl) (by decide) (by decide) (by decide) (by decide) rfl ?_
  rintro _ _ ⟨rfl, rfl⟩ hs1
  refine o_blk (pc' := 6) (st' := [(.int (0 : Int32)), (.ref a)]) (ls' := #[.val (.ref a)]) b4_4_6 rfl ?_
  refine o_putF (host := "") (ty := .int) (pc' := 9) (Or.inl (own_word hw 29 rfl)) F_a_modCount E_a (Or.inl (own_word hw 30 rfl)) (own_word hw 11 rfl) (by decide) rfl rfl N_a d4_6 rfl ?_
  intro h2 W2
  have F3 := E_a.wr W2
  have F4 := F_a_modCount.same W2
  exact o_retV d4_9 (by decide) (by decide) rfl ⟨rfl, W2⟩
set_option maxRecDepth 65536 in
set_option maxHeartbeats 40000000 in
theorem rm_al (l : Launch) (Z : State) (a0 : Array Value) (hw : ∀ d ∈ tables_1, d.before a0 Z = true)  (h0 : Heap) (hE0 : Ext Z.heap h0) (a : Addr) (E_a : Exa Z h0 a "java/util/ArrayList") (F_a_modCount : Fld Z h0 a "java/util/AbstractList" "modCount" "I" (.int (0 : Int32))) (F_a_elementData : Fld Z h0 a "java/util/ArrayList" "elementData" "[Ljava/lang/Object;" .null) (F_a_size : Fld Z h0 a "java/util/ArrayList" "size" "I" (.int (0 : Int32))) (N_a : Z.heap.size ≤ a) :
    OCtr l Z (⟨"java/util/ArrayList", "<init>", "(I)V"⟩ : MethodName) jdk_38_method_1_code 2 none ({ frames := 3, cells := 1, slots := 1, locals := 36 } : Room) #[(.ref a), (.int (1 : Int32))] h0 (fun v h => v = none ∧ ∃ (ed : Addr) (ke : ClassId), OList Z h a ed 0 0 ∧ OArr Z h ed ke (.object "java/lang/Object") [.null] ∧ Ovr Z ke "java/lang/Object" ∧ h0.size ≤ ed ∧ Z.heap.size ≤ ed ∧ Keep h0 h [a]) := by
  refine o_body (ls0 := #[.val (.ref a), .val (.int (1 : Int32))]) (plainFor_of_name pn_2) hE0 (fun m => by first | (simp [entryFrame, mkF, argsToLocals, Value.category]; done) | rfl) ?_
  intro pG eG sG mG bG meG cG
  refine o_blk (pc' := 1) (st' := [(.ref a)]) (ls' := #[.val (.ref a), .val (.int (1 : Int32))]) b3_0_1 rfl ?_
  refine o_callI (W := 0) (argsL := []) (rest := []) (pc' := 4) rfl (own_word hw 16 rfl) (own_word hw 17 rfl) (own_word hw 21 rfl) (own_word hw 20 rfl) (by decide) (fun hE => rm_abl l Z a0 hw h0 hE a (0 : Int32) E_a F_a_modCount N_a) d3_1 pd_0 rfl rfl rfl (Nat.le_of_eq rfl) (by decide) (by decide) (by decide) (by decide) rfl ?_
  rintro _ h1 ⟨rfl, W1⟩ hs2
  have F3 := E_a.wr W1
  have F4 := F_a_modCount.same W1
  have F5 := F_a_elementData.other W1 (Or.inr (slot_ne (t := (.array (.object "java/lang/Object"))) (t' := .int) (Or.inl (own_word hw 34 rfl)) (Or.inl (own_word hw 30 rfl)) (by decide) (by decide) (by decide)))
  have F6 := F_a_size.other W1 (Or.inr (slot_ne (t := .int) (t' := .int) (Or.inl (own_word hw 87 rfl)) (Or.inl (own_word hw 30 rfl)) (by decide) (by decide) (by decide)))
  have Kp7 := (Keep.refl h0 [a]).wr W1 (Or.inl (by simp))
  refine o_blk (pc' := 5) (st' := [(.int (1 : Int32))]) (ls' := #[.val (.ref a), .val (.int (1 : Int32))]) b3_4_5 rfl ?_
  refine o_ifN (pc' := 8) d3_5 rfl (by decide : 0 < (1 : Int32)) ?_
  refine o_blk (pc' := 10) (st' := [(.int (1 : Int32)), (.ref a)]) (ls' := #[.val (.ref a), .val (.int (1 : Int32))]) b3_8_10 rfl ?_
  refine o_newR (n := 1) (cap := 1) (pc' := 13) (own_word hw 31 rfl) (own_word hw 32 rfl) rfl (by omega) (by decide) d3_10 (by decide) (by decide) rfl ?_
  intro h8 a8 k8 ea8 na8 X8 F8 O8
  have ne9 : a ≠ a8 := Nat.ne_of_lt (by rw [ea8]; exact F3.lt)
  have ol10 : h0.size ≤ a8 := by rw [ea8]; exact Kp7.1
  have F11 := F3.ext X8
  have F12 := F4.ext X8
  have F13 := F5.ext X8
  have F14 := F6.ext X8
  have F15 := Kp7.ext X8
  refine o_putF (host := "") (ty := (.array (.object "java/lang/Object"))) (pc' := 16) (Or.inl (own_word hw 33 rfl)) F13 F11 (Or.inl (own_word hw 34 rfl)) (own_word hw 11 rfl) (by decide) rfl rfl N_a d3_13 rfl ?_
  intro h16 W16
  have F17 := F11.wr W16
  have F18 := F12.other W16 (Or.inr (slot_ne (t := .int) (t' := (.array (.object "java/lang/Object"))) (Or.inl (own_word hw 30 rfl)) (Or.inl (own_word hw 34 rfl)) (by decide) (by decide) (by decide)))
  have F19 := F13.same W16
  have F20 := F14.other W16 (Or.inr (slot_ne (t := .int) (t' := (.array (.object "java/lang/Object"))) (Or.inl (own_word hw 87 rfl)) (Or.inl (own_word hw 34 rfl)) (by decide) (by decide) (by decide)))
  have Kp21 := F15.wr W16 (Or.inl (by simp))
  have F22 := F8.other W16 (Ne.symm ne9)
  refine o_goto (pc' := 60) d3_16 (by decide) (by decide) ?_
  exact o_retV d3_60 (by decide) (by decide) rfl ⟨rfl, a8, k8, ⟨F17, F18, F19, F20⟩, F22, O8, ol10, na8, Kp21⟩
set_option maxRecDepth 65536 in
set_option maxHeartbeats 40000000 in
theorem rm_fill (l : Launch) (Z : State) (a0 : Array Value) (hw : ∀ d ∈ tables_1, d.before a0 Z = true)  (h0 : Heap) (hE0 : Ext Z.heap h0) (a : Addr) (k0 : ClassId) (x : Int32) (A_a : OArr Z h0 a k0 .int ((List.replicate 16 (0 : Int32)).map Value.int)) (L_a : (List.replicate 16 (0 : Int32)).length = 16) (N_a : Z.heap.size ≤ a) :
    OCtr l Z (⟨"java/util/Arrays", "fill", "([II)V"⟩ : MethodName) jdk_65_method_103_code 4 none ({ frames := 0, cells := 0, slots := 0, locals := 0 } : Room) #[(.ref a), (.int x)] h0 (fun v h => v = none ∧ OArr Z h a k0 .int ((List.replicate 16 x).map Value.int) ∧ Keep h0 h [a]) := by
  refine o_body (ls0 := #[.val (.ref a), .val (.int x), .unset, .unset]) (plainFor_of_name pn_3) hE0 (fun m => by first | (simp [entryFrame, mkF, argsToLocals, Value.category]; done) | rfl) ?_
  intro pG eG sG mG bG meG cG
  refine o_blk (pc' := 2) (st' := []) (ls' := #[.val (.ref a), .val (.int x), .val (.int (0 : Int32)), .unset]) b8_0_2 rfl ?_
  refine o_blk (pc' := 3) (st' := [(.ref a)]) (ls' := #[.val (.ref a), .val (.int x), .val (.int (0 : Int32)), .unset]) b8_2_3 rfl ?_
  refine o_len (pc' := 4) A_a d8_3 rfl ?_
  rw [List.length_map, L_a]
  refine o_blk (pc' := 5) (st' := []) (ls' := #[.val (.ref a), .val (.int x), .val (.int (0 : Int32)), .val (.int (16 : Int32))]) b8_4_5 rfl ?_
  refine o_blk (pc' := 7) (st' := [(.int (16 : Int32)), (.int (0 : Int32))]) (ls' := #[.val (.ref a), .val (.int x), .val (.int (0 : Int32)), .val (.int (16 : Int32))]) b8_5_7 rfl ?_
  refine o_icN (pc' := 10) d8_7 rfl (by decide : (0 : Int32) < (16 : Int32)) ?_
  refine o_blk (pc' := 13) (st' := [(.int x), (.int (0 : Int32)), (.ref a)]) (ls' := #[.val (.ref a), .val (.int x), .val (.int (0 : Int32)), .val (.int (16 : Int32))]) b8_10_13 rfl ?_
  refine o_iast (i := 0) (pc' := 14) A_a rfl (by rw [List.length_map, L_a]; omega) N_a d8_13 rfl ?_
  intro h1 W1
  have F2 := own_setI A_a W1
  have hl3 : ((List.replicate 16 (0 : Int32)).set 0 x).length = 16 := by rw [List.length_set]; exact L_a
  have Kp4 := (Keep.refl h0 [a]).wr W1 (Or.inl (by simp))
  refine o_blk (pc' := 17) (st' := []) (ls' := #[.val (.ref a), .val (.int x), .val (.int (1 : Int32)), .val (.int (16 : Int32))]) b8_14_17 rfl ?_
  refine o_goto (pc' := 5) d8_17 (by decide) (by decide) ?_
  refine o_blk (pc' := 7) (st' := [(.int (16 : Int32)), (.int (1 : Int32))]) (ls' := #[.val (.ref a), .val (.int x), .val (.int (1 : Int32)), .val (.int (16 : Int32))]) b8_5_7 rfl ?_
  refine o_icN (pc' := 10) d8_7 rfl (by decide : (1 : Int32) < (16 : Int32)) ?_
  refine o_blk (pc' := 13) (st' := [(.int x), (.int (1 : Int32)), (.ref a)]) (ls' := #[.val (.ref a), .val (.int x), .val (.int (1 : Int32)), .val (.int (16 : Int32))]) b8_10_13 rfl ?_
  refine o_iast (i := 1) (pc' := 14) F2 rfl (by rw [List.length_map, hl3]; omega) N_a d8_13 rfl ?_
  intro h5 W5
  have F6 := own_setI F2 W5
  have hl7 : (((List.replicate 16 (0 : Int32)).set 0 x).set 1 x).length = 16 := by rw [List.length_set]; exact hl3
  have Kp8 := Kp4.wr W5 (Or.inl (by simp))
  refine o_blk (pc' := 17) (st' := []) (ls' := #[.val (.ref a), .val (.int x), .val (.int (2 : Int32)), .val (.int (16 : Int32))]) b8_14_17 rfl ?_
  refine o_goto (pc' := 5) d8_17 (by decide) (by decide) ?_
  refine o_blk (pc' := 7) (st' := [(.int (16 : Int32)), (.int (2 : Int32))]) (ls' := #[.val (.ref a), .val (.int x), .val (.int (2 : Int32)), .val (.int (16 : Int32))]) b8_5_7 rfl ?_
  refine o_icN (pc' := 10) d8_7 rfl (by decide : (2 : Int32) < (16 : Int32)) ?_
  refine o_blk (pc' := 13) (st' := [(.int x), (.int (2 : Int32)), (.ref a)]) (ls' := #[.val (.ref a), .val (.int x), .val (.int (2 : Int32)), .val (.int (16 : Int32))]) b8_10_13 rfl ?_
  refine o_iast (i := 2) (pc' := 14) F6 rfl (by rw [List.length_map, hl7]; omega) N_a d8_13 rfl ?_
  intro h9 W9
  have F10 := own_setI F6 W9
  have hl11 : ((((List.replicate 16 (0 : Int32)).set 0 x).set 1 x).set 2 x).length = 16 := by rw [List.length_set]; exact hl7
  have Kp12 := Kp8.wr W9 (Or.inl (by simp))
  refine o_blk (pc' := 17) (st' := []) (ls' := #[.val (.ref a), .val (.int x), .val (.int (3 : Int32)), .val (.int (16 : Int32))]) b8_14_17 rfl ?_
  refine o_goto (pc' := 5) d8_17 (by decide) (by decide) ?_
  refine o_blk (pc' := 7) (st' := [(.int (16 : Int32)), (.int (3 : Int32))]) (ls' := #[.val (.ref a), .val (.int x), .val (.int (3 : Int32)), .val (.int (16 : Int32))]) b8_5_7 rfl ?_
  refine o_icN (pc' := 10) d8_7 rfl (by decide : (3 : Int32) < (16 : Int32)) ?_
  refine o_blk (pc' := 13) (st' := [(.int x), (.int (3 : Int32)), (.ref a)]) (ls' := #[.val (.ref a), .val (.int x), .val (.int (3 : Int32)), .val (.int (16 : Int32))]) b8_10_13 rfl ?_
  refine o_iast (i := 3) (pc' := 14) F10 rfl (by rw [List.length_map, hl11]; omega) N_a d8_13 rfl ?_
  intro h13 W13
  have F14 := own_setI F10 W13
  have hl15 : (((((List.replicate 16 (0 : Int32)).set 0 x).set 1 x).set 2 x).set 3 x).length = 16 := by rw [List.length_set]; exact hl11
  have Kp16 := Kp12.wr W13 (Or.inl (by simp))
  refine o_blk (pc' := 17) (st' := []) (ls' := #[.val (.ref a), .val (.int x), .val (.int (4 : Int32)), .val (.int (16 : Int32))]) b8_14_17 rfl ?_
  refine o_goto (pc' := 5) d8_17 (by decide) (by decide) ?_
  refine o_blk (pc' := 7) (st' := [(.int (16 : Int32)), (.int (4 : Int32))]) (ls' := #[.val (.ref a), .val (.int x), .val (.int (4 : Int32)), .val (.int (16 : Int32))]) b8_5_7 rfl ?_
  refine o_icN (pc' := 10) d8_7 rfl (by decide : (4 : Int32) < (16 : Int32)) ?_
  refine o_blk (pc' := 13) (st' := [(.int x), (.int (4 : Int32)), (.ref a)]) (ls' := #[.val (.ref a), .val (.int x), .val (.int (4 : Int32)), .val (.int (16 : Int32))]) b8_10_13 rfl ?_
  refine o_iast (i := 4) (pc' := 14) F14 rfl (by rw [List.length_map, hl15]; omega) N_a d8_13 rfl ?_
  intro h17 W17
  have F18 := own_setI F14 W17
  have hl19 : ((((((List.replicate 16 (0 : Int32)).set 0 x).set 1 x).set 2 x).set 3 x).set 4 x).length = 16 := by rw [List.length_set]; exact hl15
  have Kp20 := Kp16.wr W17 (Or.inl (by simp))
  refine o_blk (pc' := 17) (st' := []) (ls' := #[.val (.ref a), .val (.int x), .val (.int (5 : Int32)), .val (.int (16 : Int32))]) b8_14_17 rfl ?_
  refine o_goto (pc' := 5) d8_17 (by decide) (by decide) ?_
  refine o_blk (pc' := 7) (st' := [(.int (16 : Int32)), (.int (5 : Int32))]) (ls' := #[.val (.ref a), .val (.int x), .val (.int (5 : Int32)), .val (.int (16 : Int32))]) b8_5_7 rfl ?_
  refine o_icN (pc' := 10) d8_7 rfl (by decide : (5 : Int32) < (16 : Int32)) ?_
  refine o_blk (pc' := 13) (st' := [(.int x), (.int (5 : Int32)), (.ref a)]) (ls' := #[.val (.ref a), .val (.int x), .val (.int (5 : Int32)), .val (.int (16 : Int32))]) b8_10_13 rfl ?_
  refine o_iast (i := 5) (pc' := 14) F18 rfl (by rw [List.length_map, hl19]; omega) N_a d8_13 rfl ?_
  intro h21 W21
  have F22 := own_setI F18 W21
  have hl23 : (((((((List.replicate 16 (0 : Int32)).set 0 x).set 1 x).set 2 x).set 3 x).set 4 x).set 5 x).length = 16 := by rw [List.length_set]; exact hl19
  have Kp24 := Kp20.wr W21 (Or.inl (by simp))
  refine o_blk (pc' := 17) (st' := []) (ls' := #[.val (.ref a), .val (.int x), .val (.int (6 : Int32)), .val (.int (16 : Int32))]) b8_14_17 rfl ?_
  refine o_goto (pc' := 5) d8_17 (by decide) (by decide) ?_
  refine o_blk (pc' := 7) (st' := [(.int (16 : Int32)), (.int (6 : Int32))]) (ls' := #[.val (.ref a), .val (.int x), .val (.int (6 : Int32)), .val (.int (16 : Int32))]) b8_5_7 rfl ?_
  refine o_icN (pc' := 10) d8_7 rfl (by decide : (6 : Int32) < (16 : Int32)) ?_
  refine o_blk (pc' := 13) (st' := [(.int x), (.int (6 : Int32)), (.ref a)]) (ls' := #[.val (.ref a), .val (.int x), .val (.int (6 : Int32)), .val (.int (16 : Int32))]) b8_10_13 rfl ?_
  refine o_iast (i := 6) (pc' := 14) F22 rfl (by rw [List.length_map, hl23]; omega) N_a d8_13 rfl ?_
  intro h25 W25
  have F26 := own_setI F22 W25
  have hl27 : ((((((((List.replicate 16 (0 : Int32)).set 0 x).set 1 x).set 2 x).set 3 x).set 4 x).set 5 x).set 6 x).length = 16 := by rw [List.length_set]; exact hl23
  have Kp28 := Kp24.wr W25 (Or.inl (by simp))
  refine o_blk (pc' := 17) (st' := []) (ls' := #[.val (.ref a), .val (.int x), .val (.int (7 : Int32)), .val (.int (16 : Int32))]) b8_14_17 rfl ?_
  refine o_goto (pc' := 5) d8_17 (by decide) (by decide) ?_
  refine o_blk (pc' := 7) (st' := [(.int (16 : Int32)), (.int (7 : Int32))]) (ls' := #[.val (.ref a), .val (.int x), .val (.int (7 : Int32)), .val (.int (16 : Int32))]) b8_5_7 rfl ?_
  refine o_icN (pc' := 10) d8_7 rfl (by decide : (7 : Int32) < (16 : Int32)) ?_
  refine o_blk (pc' := 13) (st' := [(.int x), (.int (7 : Int32)), (.ref a)]) (ls' := #[.val (.ref a), .val (.int x), .val (.int (7 : Int32)), .val (.int (16 : Int32))]) b8_10_13 rfl ?_
  refine o_iast (i := 7) (pc' := 14) F26 rfl (by rw [List.length_map, hl27]; omega) N_a d8_13 rfl ?_
  intro h29 W29
  have F30 := own_setI F26 W29
  have hl31 : (((((((((List.replicate 16 (0 : Int32)).set 0 x).set 1 x).set 2 x).set 3 x).set 4 x).set 5 x).set 6 x).set 7 x).length = 16 := by rw [List.length_set]; exact hl27
  have Kp32 := Kp28.wr W29 (Or.inl (by simp))
  refine o_blk (pc' := 17) (st' := []) (ls' := #[.val (.ref a), .val (.int x), .val (.int (8 : Int32)), .val (.int (16 : Int32))]) b8_14_17 rfl ?_
  refine o_goto (pc' := 5) d8_17 (by decide) (by decide) ?_
  refine o_blk (pc' := 7) (st' := [(.int (16 : Int32)), (.int (8 : Int32))]) (ls' := #[.val (.ref a), .val (.int x), .val (.int (8 : Int32)), .val (.int (16 : Int32))]) b8_5_7 rfl ?_
  refine o_icN (pc' := 10) d8_7 rfl (by decide : (8 : Int32) < (16 : Int32)) ?_
  refine o_blk (pc' := 13) (st' := [(.int x), (.int (8 : Int32)), (.ref a)]) (ls' := #[.val (.ref a), .val (.int x), .val (.int (8 : Int32)), .val (.int (16 : Int32))]) b8_10_13 rfl ?_
  refine o_iast (i := 8) (pc' := 14) F30 rfl (by rw [List.length_map, hl31]; omega) N_a d8_13 rfl ?_
  intro h33 W33
  have F34 := own_setI F30 W33
  have hl35 : ((((((((((List.replicate 16 (0 : Int32)).set 0 x).set 1 x).set 2 x).set 3 x).set 4 x).set 5 x).set 6 x).set 7 x).set 8 x).length = 16 := by rw [List.length_set]; exact hl31
  have Kp36 := Kp32.wr W33 (Or.inl (by simp))
  refine o_blk (pc' := 17) (st' := []) (ls' := #[.val (.ref a), .val (.int x), .val (.int (9 : Int32)), .val (.int (16 : Int32))]) b8_14_17 rfl ?_
  refine o_goto (pc' := 5) d8_17 (by decide) (by decide) ?_
  refine o_blk (pc' := 7) (st' := [(.int (16 : Int32)), (.int (9 : Int32))]) (ls' := #[.val (.ref a), .val (.int x), .val (.int (9 : Int32)), .val (.int (16 : Int32))]) b8_5_7 rfl ?_
  refine o_icN (pc' := 10) d8_7 rfl (by decide : (9 : Int32) < (16 : Int32)) ?_
  refine o_blk (pc' := 13) (st' := [(.int x), (.int (9 : Int32)), (.ref a)]) (ls' := #[.val (.ref a), .val (.int x), .val (.int (9 : Int32)), .val (.int (16 : Int32))]) b8_10_13 rfl ?_
  refine o_iast (i := 9) (pc' := 14) F34 rfl (by rw [List.length_map, hl35]; omega) N_a d8_13 rfl ?_
  intro h37 W37
  have F38 := own_setI F34 W37
  have hl39 : (((((((((((List.replicate 16 (0 : Int32)).set 0 x).set 1 x).set 2 x).set 3 x).set 4 x).set 5 x).set 6 x).set 7 x).set 8 x).set 9 x).length = 16 := by rw [List.length_set]; exact hl35
  have Kp40 := Kp36.wr W37 (Or.inl (by simp))
  refine o_blk (pc' := 17) (st' := []) (ls' := #[.val (.ref a), .val (.int x), .val (.int (10 : Int32)), .val (.int (16 : Int32))]) b8_14_17 rfl ?_
  refine o_goto (pc' := 5) d8_17 (by decide) (by decide) ?_
  refine o_blk (pc' := 7) (st' := [(.int (16 : Int32)), (.int (10 : Int32))]) (ls' := #[.val (.ref a), .val (.int x), .val (.int (10 : Int32)), .val (.int (16 : Int32))]) b8_5_7 rfl ?_
  refine o_icN (pc' := 10) d8_7 rfl (by decide : (10 : Int32) < (16 : Int32)) ?_
  refine o_blk (pc' := 13) (st' := [(.int x), (.int (10 : Int32)), (.ref a)]) (ls' := #[.val (.ref a), .val (.int x), .val (.int (10 : Int32)), .val (.int (16 : Int32))]) b8_10_13 rfl ?_
  refine o_iast (i := 10) (pc' := 14) F38 rfl (by rw [List.length_map, hl39]; omega) N_a d8_13 rfl ?_
  intro h41 W41
  have F42 := own_setI F38 W41
  have hl43 : ((((((((((((List.replicate 16 (0 : Int32)).set 0 x).set 1 x).set 2 x).set 3 x).set 4 x).set 5 x).set 6 x).set 7 x).set 8 x).set 9 x).set 10 x).length = 16 := by rw [List.length_set]; exact hl39
  have Kp44 := Kp40.wr W41 (Or.inl (by simp))
  refine o_blk (pc' := 17) (st' := []) (ls' := #[.val (.ref a), .val (.int x), .val (.int (11 : Int32)), .val (.int (16 : Int32))]) b8_14_17 rfl ?_
  refine o_goto (pc' := 5) d8_17 (by decide) (by decide) ?_
  refine o_blk (pc' := 7) (st' := [(.int (16 : Int32)), (.int (11 : Int32))]) (ls' := #[.val (.ref a), .val (.int x), .val (.int (11 : Int32)), .val (.int (16 : Int32))]) b8_5_7 rfl ?_
  refine o_icN (pc' := 10) d8_7 rfl (by decide : (11 : Int32) < (16 : Int32)) ?_
  refine o_blk (pc' := 13) (st' := [(.int x), (.int (11 : Int32)), (.ref a)]) (ls' := #[.val (.ref a), .val (.int x), .val (.int (11 : Int32)), .val (.int (16 : Int32))]) b8_10_13 rfl ?_
  refine o_iast (i := 11) (pc' := 14) F42 rfl (by rw [List.length_map, hl43]; omega) N_a d8_13 rfl ?_
  intro h45 W45
  have F46 := own_setI F42 W45
  have hl47 : (((((((((((((List.replicate 16 (0 : Int32)).set 0 x).set 1 x).set 2 x).set 3 x).set 4 x).set 5 x).set 6 x).set 7 x).set 8 x).set 9 x).set 10 x).set 11 x).length = 16 := by rw [List.length_set]; exact hl43
  have Kp48 := Kp44.wr W45 (Or.inl (by simp))
  refine o_blk (pc' := 17) (st' := []) (ls' := #[.val (.ref a), .val (.int x), .val (.int (12 : Int32)), .val (.int (16 : Int32))]) b8_14_17 rfl ?_
  refine o_goto (pc' := 5) d8_17 (by decide) (by decide) ?_
  refine o_blk (pc' := 7) (st' := [(.int (16 : Int32)), (.int (12 : Int32))]) (ls' := #[.val (.ref a), .val (.int x), .val (.int (12 : Int32)), .val (.int (16 : Int32))]) b8_5_7 rfl ?_
  refine o_icN (pc' := 10) d8_7 rfl (by decide : (12 : Int32) < (16 : Int32)) ?_
  refine o_blk (pc' := 13) (st' := [(.int x), (.int (12 : Int32)), (.ref a)]) (ls' := #[.val (.ref a), .val (.int x), .val (.int (12 : Int32)), .val (.int (16 : Int32))]) b8_10_13 rfl ?_
  refine o_iast (i := 12) (pc' := 14) F46 rfl (by rw [List.length_map, hl47]; omega) N_a d8_13 rfl ?_
  intro h49 W49
  have F50 := own_setI F46 W49
  have hl51 : ((((((((((((((List.replicate 16 (0 : Int32)).set 0 x).set 1 x).set 2 x).set 3 x).set 4 x).set 5 x).set 6 x).set 7 x).set 8 x).set 9 x).set 10 x).set 11 x).set 12 x).length = 16 := by rw [List.length_set]; exact hl47
  have Kp52 := Kp48.wr W49 (Or.inl (by simp))
  refine o_blk (pc' := 17) (st' := []) (ls' := #[.val (.ref a), .val (.int x), .val (.int (13 : Int32)), .val (.int (16 : Int32))]) b8_14_17 rfl ?_
  refine o_goto (pc' := 5) d8_17 (by decide) (by decide) ?_
  refine o_blk (pc' := 7) (st' := [(.int (16 : Int32)), (.int (13 : Int32))]) (ls' := #[.val (.ref a), .val (.int x), .val (.int (13 : Int32)), .val (.int (16 : Int32))]) b8_5_7 rfl ?_
  refine o_icN (pc' := 10) d8_7 rfl (by decide : (13 : Int32) < (16 : Int32)) ?_
  refine o_blk (pc' := 13) (st' := [(.int x), (.int (13 : Int32)), (.ref a)]) (ls' := #[.val (.ref a), .val (.int x), .val (.int (13 : Int32)), .val (.int (16 : Int32))]) b8_10_13 rfl ?_
  refine o_iast (i := 13) (pc' := 14) F50 rfl (by rw [List.length_map, hl51]; omega) N_a d8_13 rfl ?_
  intro h53 W53
  have F54 := own_setI F50 W53
  have hl55 : (((((((((((((((List.replicate 16 (0 : Int32)).set 0 x).set 1 x).set 2 x).set 3 x).set 4 x).set 5 x).set 6 x).set 7 x).set 8 x).set 9 x).set 10 x).set 11 x).set 12 x).set 13 x).length = 16 := by rw [List.length_set]; exact hl51
  have Kp56 := Kp52.wr W53 (Or.inl (by simp))
  refine o_blk (pc' := 17) (st' := []) (ls' := #[.val (.ref a), .val (.int x), .val (.int (14 : Int32)), .val (.int (16 : Int32))]) b8_14_17 rfl ?_
  refine o_goto (pc' := 5) d8_17 (by decide) (by decide) ?_
  refine o_blk (pc' := 7) (st' := [(.int (16 : Int32)), (.int (14 : Int32))]) (ls' := #[.val (.ref a), .val (.int x), .val (.int (14 : Int32)), .val (.int (16 : Int32))]) b8_5_7 rfl ?_
  refine o_icN (pc' := 10) d8_7 rfl (by decide : (14 : Int32) < (16 : Int32)) ?_
  refine o_blk (pc' := 13) (st' := [(.int x), (.int (14 : Int32)), (.ref a)]) (ls' := #[.val (.ref a), .val (.int x), .val (.int (14 : Int32)), .val (.int (16 : Int32))]) b8_10_13 rfl ?_
  refine o_iast (i := 14) (pc' := 14) F54 rfl (by rw [List.length_map, hl55]; omega) N_a d8_13 rfl ?_
  intro h57 W57
  have F58 := own_setI F54 W57
  have hl59 : ((((((((((((((((List.replicate 16 (0 : Int32)).set 0 x).set 1 x).set 2 x).set 3 x).set 4 x).set 5 x).set 6 x).set 7 x).set 8 x).set 9 x).set 10 x).set 11 x).set 12 x).set 13 x).set 14 x).length = 16 := by rw [List.length_set]; exact hl55
  have Kp60 := Kp56.wr W57 (Or.inl (by simp))
  refine o_blk (pc' := 17) (st' := []) (ls' := #[.val (.ref a), .val (.int x), .val (.int (15 : Int32)), .val (.int (16 : Int32))]) b8_14_17 rfl ?_
  refine o_goto (pc' := 5) d8_17 (by decide) (by decide) ?_
  refine o_blk (pc' := 7) (st' := [(.int (16 : Int32)), (.int (15 : Int32))]) (ls' := #[.val (.ref a), .val (.int x), .val (.int (15 : Int32)), .val (.int (16 : Int32))]) b8_5_7 rfl ?_
  refine o_icN (pc' := 10) d8_7 rfl (by decide : (15 : Int32) < (16 : Int32)) ?_
  refine o_blk (pc' := 13) (st' := [(.int x), (.int (15 : Int32)), (.ref a)]) (ls' := #[.val (.ref a), .val (.int x), .val (.int (15 : Int32)), .val (.int (16 : Int32))]) b8_10_13 rfl ?_
  refine o_iast (i := 15) (pc' := 14) F58 rfl (by rw [List.length_map, hl59]; omega) N_a d8_13 rfl ?_
  intro h61 W61
  have F62 := own_setI F58 W61
  have hl63 : (((((((((((((((((List.replicate 16 (0 : Int32)).set 0 x).set 1 x).set 2 x).set 3 x).set 4 x).set 5 x).set 6 x).set 7 x).set 8 x).set 9 x).set 10 x).set 11 x).set 12 x).set 13 x).set 14 x).set 15 x).length = 16 := by rw [List.length_set]; exact hl59
  have Kp64 := Kp60.wr W61 (Or.inl (by simp))
  refine o_blk (pc' := 17) (st' := []) (ls' := #[.val (.ref a), .val (.int x), .val (.int (16 : Int32)), .val (.int (16 : Int32))]) b8_14_17 rfl ?_
  refine o_goto (pc' := 5) d8_17 (by decide) (by decide) ?_
  refine o_blk (pc' := 7) (st' := [(.int (16 : Int32)), (.int (16 : Int32))]) (ls' := #[.val (.ref a), .val (.int x), .val (.int (16 : Int32)), .val (.int (16 : Int32))]) b8_5_7 rfl ?_
  refine o_icY (pc' := 20) d8_7 (by decide) (by decide) (by decide : ¬ (16 : Int32) < (16 : Int32)) ?_
  exact o_retV d8_20 (by decide) (by decide) rfl ⟨rfl, F62, Kp64⟩
set_option maxRecDepth 65536 in
set_option maxHeartbeats 40000000 in
theorem rm_add3 (l : Launch) (Z : State) (a0 : Array Value) (hw : ∀ d ∈ tables_1, d.before a0 Z = true)  (h0 : Heap) (hE0 : Ext Z.heap h0) (al o ed : Addr) (ke : ClassId) (O0 : Ovr Z ke "java/lang/Object") (mc : Int32) (E_al : Exa Z h0 al "java/util/ArrayList") (F_al_modCount : Fld Z h0 al "java/util/AbstractList" "modCount" "I" (.int mc)) (F_al_elementData : Fld Z h0 al "java/util/ArrayList" "elementData" "[Ljava/lang/Object;" (.ref ed)) (F_al_size : Fld Z h0 al "java/util/ArrayList" "size" "I" (.int (0 : Int32))) (A_ed : OArr Z h0 ed ke (.object "java/lang/Object") [.null]) (E_o : Exa Z h0 o "com/example/mild_horn/mildhorn/datalog/Relation$Index") (N_al : Z.heap.size ≤ al) (N_ed : Z.heap.size ≤ ed) (ne_al_ed : al ≠ ed) (ne_al_o : al ≠ o) (ne_ed_o : ed ≠ o) :
    OCtr l Z (⟨"java/util/ArrayList", "add", "(Ljava/lang/Object;[Ljava/lang/Object;I)V"⟩ : MethodName) jdk_38_method_24_code 4 none ({ frames := 0, cells := 0, slots := 0, locals := 0 } : Room) #[(.ref al), (.ref o), (.ref ed), (.int (0 : Int32))] h0 (fun v h => v = none ∧ OList Z h al ed 1 mc ∧ OArr Z h ed ke (.object "java/lang/Object") [.ref o] ∧ Keep h0 h [al, ed]) := by
  refine o_body (ls0 := #[.val (.ref al), .val (.ref o), .val (.ref ed), .val (.int (0 : Int32))]) (plainFor_of_name pn_2) hE0 (fun m => by first | (simp [entryFrame, mkF, argsToLocals, Value.category]; done) | rfl) ?_
  intro pG eG sG mG bG meG cG
  refine o_blk (pc' := 2) (st' := [(.ref ed), (.int (0 : Int32))]) (ls' := #[.val (.ref al), .val (.ref o), .val (.ref ed), .val (.int (0 : Int32))]) b10_0_2 rfl ?_
  refine o_len (pc' := 3) A_ed d10_2 rfl ?_
  refine o_icY (pc' := 11) d10_3 (by decide) (by decide) (by decide : ¬ (0 : Int32) = (1 : Int32)) ?_
  refine o_blk (pc' := 14) (st' := [(.ref o), (.int (0 : Int32)), (.ref ed)]) (ls' := #[.val (.ref al), .val (.ref o), .val (.ref ed), .val (.int (0 : Int32))]) b10_11_14 rfl ?_
  refine o_aast (i := 0) (pc' := 15) A_ed rfl (own_sto A_ed O0 (Ins.of_exa E_o (own_word hw 93 rfl))) rfl (by simp) N_ed d10_14 rfl ?_
  intro h1 W1
  have F2 := E_al.wr W1
  have F3 := F_al_modCount.other W1 (Or.inl ne_al_ed)
  have F4 := F_al_elementData.other W1 (Or.inl ne_al_ed)
  have F5 := F_al_size.other W1 (Or.inl ne_al_ed)
  have F6 := A_ed.set W1
  have F7 := E_o.wr W1
  have Kp8 := (Keep.refl h0 [al, ed]).wr W1 (Or.inl (by simp))
  refine o_blk (pc' := 19) (st' := [(.int (1 : Int32)), (.ref al)]) (ls' := #[.val (.ref al), .val (.ref o), .val (.ref ed), .val (.int (0 : Int32))]) b10_15_19 rfl ?_
  refine o_putF (host := "") (ty := .int) (pc' := 22) (Or.inl (own_word hw 86 rfl)) F5 F2 (Or.inl (own_word hw 87 rfl)) (own_word hw 11 rfl) (by decide) rfl rfl N_al d10_19 rfl ?_
  intro h9 W9
  have F10 := F2.wr W9
  have F11 := F3.other W9 (Or.inr (slot_ne (t := .int) (t' := .int) (Or.inl (own_word hw 30 rfl)) (Or.inl (own_word hw 87 rfl)) (by decide) (by decide) (by decide)))
  have F12 := F4.other W9 (Or.inr (slot_ne (t := (.array (.object "java/lang/Object"))) (t' := .int) (Or.inl (own_word hw 34 rfl)) (Or.inl (own_word hw 87 rfl)) (by decide) (by decide) (by decide)))
  have F13 := F5.same W9
  have F14 := F6.other W9 (Ne.symm ne_al_ed)
  have F15 := F7.wr W9
  have Kp16 := Kp8.wr W9 (Or.inl (by simp))
  exact o_retV d10_22 (by decide) (by decide) rfl ⟨rfl, ⟨F10, F11, F12, F13⟩, F14, Kp16⟩
set_option maxRecDepth 65536 in
set_option maxHeartbeats 40000000 in
theorem rm_add1 (l : Launch) (Z : State) (a0 : Array Value) (hw : ∀ d ∈ tables_1, d.before a0 Z = true)  (h0 : Heap) (hE0 : Ext Z.heap h0) (al o ed : Addr) (ke : ClassId) (O0 : Ovr Z ke "java/lang/Object") (mc : Int32) (E_al : Exa Z h0 al "java/util/ArrayList") (F_al_modCount : Fld Z h0 al "java/util/AbstractList" "modCount" "I" (.int mc)) (F_al_elementData : Fld Z h0 al "java/util/ArrayList" "elementData" "[Ljava/lang/Object;" (.ref ed)) (F_al_size : Fld Z h0 al "java/util/ArrayList" "size" "I" (.int (0 : Int32))) (A_ed : OArr Z h0 ed ke (.object "java/lang/Object") [.null]) (E_o : Exa Z h0 o "com/example/mild_horn/mildhorn/datalog/Relation$Index") (N_al : Z.heap.size ≤ al) (N_ed : Z.heap.size ≤ ed) (ne_al_ed : al ≠ ed) (ne_al_o : al ≠ o) (ne_ed_o : ed ≠ o) :
    OCtr l Z (⟨"java/util/ArrayList", "add", "(Ljava/lang/Object;)Z"⟩ : MethodName) jdk_38_method_25_code 2 (some .boolean) ({ frames := 1, cells := 0, slots := 0, locals := 15 } : Room) #[(.ref al), (.ref o)] h0 (fun v h => v = some (.int 1) ∧ OList Z h al ed 1 (mc + 1) ∧ OArr Z h ed ke (.object "java/lang/Object") [.ref o] ∧ Keep h0 h [al, ed]) := by
  refine o_body (ls0 := #[.val (.ref al), .val (.ref o)]) (plainFor_of_name pn_2) hE0 (fun m => by first | (simp [entryFrame, mkF, argsToLocals, Value.category]; done) | rfl) ?_
  intro pG eG sG mG bG meG cG
  refine o_blk (pc' := 2) (st' := [(.ref al), (.ref al)]) (ls' := #[.val (.ref al), .val (.ref o)]) b9_0_2 rfl ?_
  refine o_getFV (host := "") (pc' := 5) (v := (.int mc)) (Or.inl (own_word hw 84 rfl)) (own_word hw 85 rfl) F_al_modCount d9_2 rfl ?_
  refine o_blk (pc' := 7) (st' := [(.int (mc + (1 : Int32))), (.ref al)]) (ls' := #[.val (.ref al), .val (.ref o)]) b9_5_7 rfl ?_
  refine o_putFV (host := "") (ty := .int) (pc' := 10) (Or.inl (own_word hw 84 rfl)) (own_word hw 85 rfl) F_al_modCount E_al (own_word hw 30 rfl) (own_word hw 11 rfl) (by decide) rfl rfl N_al d9_7 rfl ?_
  intro h1 W1
  have F2 := E_al.wr W1
  have F3 := F_al_modCount.same W1
  have F4 := F_al_elementData.other W1 (Or.inr (slot_ne (t := (.array (.object "java/lang/Object"))) (t' := .int) (Or.inl (own_word hw 34 rfl)) (Or.inl (own_word hw 30 rfl)) (by decide) (by decide) (by decide)))
  have F5 := F_al_size.other W1 (Or.inr (slot_ne (t := .int) (t' := .int) (Or.inl (own_word hw 87 rfl)) (Or.inl (own_word hw 30 rfl)) (by decide) (by decide) (by decide)))
  have F6 := A_ed.other W1 (Ne.symm ne_al_ed)
  have F7 := E_o.wr W1
  have Kp8 := (Keep.refl h0 [al, ed]).wr W1 (Or.inl (by simp))
  refine o_blk (pc' := 13) (st' := [(.ref al), (.ref o), (.ref al)]) (ls' := #[.val (.ref al), .val (.ref o)]) b9_10_13 rfl ?_
  refine o_getF (host := "") (pc' := 16) (v := (.ref ed)) (Or.inl (own_word hw 33 rfl)) F4 d9_13 rfl ?_
  refine o_blk (pc' := 17) (st' := [(.ref al), (.ref ed), (.ref o), (.ref al)]) (ls' := #[.val (.ref al), .val (.ref o)]) b9_16_17 rfl ?_
  refine o_getF (host := "") (pc' := 20) (v := (.int (0 : Int32))) (Or.inl (own_word hw 86 rfl)) F5 d9_17 rfl ?_
  refine o_callP (W := 0) (argsL := [(.ref o), (.ref ed), (.int (0 : Int32))]) (rest := []) (pc' := 23) (own_word hw 88 rfl) (own_word hw 89 rfl) (own_word hw 90 rfl) (own_word hw 11 rfl) (own_word hw 92 rfl) (own_word hw 12 rfl) (by decide) F2 (fun hE => rm_add3 l Z a0 hw h1 hE al o ed ke O0 (mc + (1 : Int32)) F2 F3 F4 F5 F6 F7 N_al N_ed ne_al_ed ne_al_o ne_ed_o) d9_20 pd_1 rfl rfl rfl (Nat.le_of_eq rfl) (by decide) (by decide) (by decide) (by decide) rfl ?_
  rintro _ h3 ⟨rfl, L3, A3, K3⟩ hs9
  have F10 := F2.keep K3
  have F15 := F7.keep K3
  have F16 := Kp8.trans K3 (allS (Or.inl (by simp)) (allS (Or.inl (by simp)) all0))
  refine o_blk (pc' := 24) (st' := [(.int (1 : Int32))]) (ls' := #[.val (.ref al), .val (.ref o)]) b9_23_24 rfl ?_
  exact o_retZ (w := 0) d9_24 (by decide) (by decide) rfl (by decide) ⟨rfl, L3, A3, F16⟩
set_option maxRecDepth 65536 in
set_option maxHeartbeats 40000000 in
theorem rm_ix (l : Launch) (Z : State) (a0 : Array Value) (hw : ∀ d ∈ tables_1, d.before a0 Z = true)  (h0 : Heap) (hE0 : Ext Z.heap h0) (ix r po : Addr) (kp0 : ClassId) (E_ix : Exa Z h0 ix "com/example/mild_horn/mildhorn/datalog/Relation$Index") (F_ix_this0 : Fld Z h0 ix "com/example/mild_horn/mildhorn/datalog/Relation$Index" "this$0" "Lcom/example/mild_horn/mildhorn/datalog/Relation;" .null) (F_ix_positions : Fld Z h0 ix "com/example/mild_horn/mildhorn/datalog/Relation$Index" "positions" "[I" .null) (F_ix_buckets : Fld Z h0 ix "com/example/mild_horn/mildhorn/datalog/Relation$Index" "buckets" "[I" .null) (F_ix_next : Fld Z h0 ix "com/example/mild_horn/mildhorn/datalog/Relation$Index" "next" "[I" .null) (F_ix_linked : Fld Z h0 ix "com/example/mild_horn/mildhorn/datalog/Relation$Index" "linked" "I" (.int (0 : Int32))) (A_po : OArr Z h0 po kp0 .int ([(0 : Int32)].map Value.int)) (L_po : [(0 : Int32)].length = 1) (E_po : Exa Z h0 po "[I") (N_ix : Z.heap.size ≤ ix) (ne_po_ix : po ≠ ix) :
    OCtr l Z (⟨"com/example/mild_horn/mildhorn/datalog/Relation$Index", "<init>", "(Lcom/example/mild_horn/mildhorn/datalog/Relation;[I)V"⟩ : MethodName) prog_25_method_1_code 3 none ({ frames := 1, cells := 3, slots := 33, locals := 15 } : Room) #[(.ref ix), (.ref r), (.ref po)] h0 (fun v h => v = none ∧ ∃ (ps bk nx : Addr) (k1 k2 k3 : ClassId), OIdx Z h ix r ps bk nx 0 ∧ OArr Z h ps k1 .int ([(0 : Int32)].map Value.int) ∧ OArr Z h bk k2 .int ((List.replicate 16 (-1 : Int32)).map Value.int) ∧ OArr Z h nx k3 .int ((List.replicate 16 (0 : Int32)).map Value.int) ∧ (h0.size ≤ ps ∧ h0.size ≤ bk ∧ h0.size ≤ nx) ∧ (Z.heap.size ≤ ps ∧ Z.heap.size ≤ bk ∧ Z.heap.size ≤ nx) ∧ (ps ≠ bk ∧ ps ≠ nx ∧ bk ≠ nx) ∧ Keep h0 h [ix]) := by
  refine o_body (ls0 := #[.val (.ref ix), .val (.ref r), .val (.ref po)]) (plainFor_of_name pn_4) hE0 (fun m => by first | (simp [entryFrame, mkF, argsToLocals, Value.category]; done) | rfl) ?_
  intro pG eG sG mG bG meG cG
  refine o_blk (pc' := 2) (st' := [(.ref r), (.ref ix)]) (ls' := #[.val (.ref ix), .val (.ref r), .val (.ref po)]) b7_0_2 rfl ?_
  refine o_putF (host := "") (ty := (.object "com/example/mild_horn/mildhorn/datalog/Relation")) (pc' := 5) (Or.inl (own_word hw 51 rfl)) F_ix_this0 E_ix (Or.inr ⟨(own_word hw 52 rfl), rfl, rfl⟩) (own_word hw 46 rfl) (by decide) rfl rfl N_ix d7_2 rfl ?_
  intro h1 W1
  have F2 := E_ix.wr W1
  have F3 := F_ix_this0.same W1
  have F4 := F_ix_positions.other W1 (Or.inr (slot_ne (t := (.array .int)) (t' := (.object "com/example/mild_horn/mildhorn/datalog/Relation")) (Or.inr (own_word hw 68 rfl)) (Or.inr (own_word hw 52 rfl)) (by decide) (by decide) (by decide)))
  have F5 := F_ix_buckets.other W1 (Or.inr (slot_ne (t := (.array .int)) (t' := (.object "com/example/mild_horn/mildhorn/datalog/Relation")) (Or.inl (own_word hw 55 rfl)) (Or.inr (own_word hw 52 rfl)) (by decide) (by decide) (by decide)))
  have F6 := F_ix_next.other W1 (Or.inr (slot_ne (t := (.array .int)) (t' := (.object "com/example/mild_horn/mildhorn/datalog/Relation")) (Or.inl (own_word hw 57 rfl)) (Or.inr (own_word hw 52 rfl)) (by decide) (by decide) (by decide)))
  have F7 := F_ix_linked.other W1 (Or.inr (slot_ne (t := .int) (t' := (.object "com/example/mild_horn/mildhorn/datalog/Relation")) (Or.inl (own_word hw 201 rfl)) (Or.inr (own_word hw 52 rfl)) (by decide) (by decide) (by decide)))
  have F8 := A_po.other W1 ne_po_ix
  have F9 := E_po.wr W1
  have Kp10 := (Keep.refl h0 [ix]).wr W1 (Or.inl (by simp))
  refine o_blk (pc' := 6) (st' := [(.ref ix)]) (ls' := #[.val (.ref ix), .val (.ref r), .val (.ref po)]) b7_5_6 rfl ?_
  refine o_initO (W := 0) (pc' := 9) (own_word hw 53 rfl) (own_word hw 8 rfl) (own_word hw 9 rfl) d7_6 rfl (Nat.le_of_eq rfl) (by decide) (by decide) rfl ?_
  refine o_blk (pc' := 12) (st' := [(.int (16 : Int32)), (.ref ix)]) (ls' := #[.val (.ref ix), .val (.ref r), .val (.ref po)]) b7_9_12 rfl ?_
  refine o_newPE (n := 16) (cap := 16) (ad := "[I") (pc' := 14) (own_word hw 0 rfl) (by decide) rfl (by omega) (by decide) d7_12 (by decide) (by decide) rfl ?_
  intro h11 a11 k11 ea11 na11 X11 F11 E11
  have ne12 : ix ≠ a11 := Nat.ne_of_lt (by rw [ea11]; exact F2.lt)
  have ne13 : po ≠ a11 := Nat.ne_of_lt (by rw [ea11]; exact F8.lt)
  have ol14 : h0.size ≤ a11 := by rw [ea11]; exact Kp10.1
  have F15 := F2.ext X11
  have F16 := F3.ext X11
  have F17 := F4.ext X11
  have F18 := F5.ext X11
  have F19 := F6.ext X11
  have F20 := F7.ext X11
  have F21 := F8.ext X11
  have F22 := F9.ext X11
  have F23 := Kp10.ext X11
  have G11 := own_repI F11
  have hl11 : (List.replicate 16 (0 : Int32)).length = 16 := List.length_replicate
  refine o_putF (host := "") (ty := (.array .int)) (pc' := 17) (Or.inl (own_word hw 54 rfl)) F18 F15 (Or.inl (own_word hw 55 rfl)) (own_word hw 46 rfl) (by decide) rfl rfl N_ix d7_14 rfl ?_
  intro h24 W24
  have F25 := F15.wr W24
  have F26 := F16.other W24 (Or.inr (slot_ne (t := (.object "com/example/mild_horn/mildhorn/datalog/Relation")) (t' := (.array .int)) (Or.inr (own_word hw 52 rfl)) (Or.inl (own_word hw 55 rfl)) (by decide) (by decide) (by decide)))
  have F27 := F17.other W24 (Or.inr (slot_ne (t := (.array .int)) (t' := (.array .int)) (Or.inr (own_word hw 68 rfl)) (Or.inl (own_word hw 55 rfl)) (by decide) (by decide) (by decide)))
  have F28 := F18.same W24
  have F29 := F19.other W24 (Or.inr (slot_ne (t := (.array .int)) (t' := (.array .int)) (Or.inl (own_word hw 57 rfl)) (Or.inl (own_word hw 55 rfl)) (by decide) (by decide) (by decide)))
  have F30 := F20.other W24 (Or.inr (slot_ne (t := .int) (t' := (.array .int)) (Or.inl (own_word hw 201 rfl)) (Or.inl (own_word hw 55 rfl)) (by decide) (by decide) (by decide)))
  have F31 := F21.other W24 ne_po_ix
  have F32 := F22.wr W24
  have Kp33 := F23.wr W24 (Or.inl (by simp))
  have F34 := E11.wr W24
  have F35 := G11.other W24 (Ne.symm ne12)
  refine o_blk (pc' := 20) (st' := [(.int (16 : Int32)), (.ref ix)]) (ls' := #[.val (.ref ix), .val (.ref r), .val (.ref po)]) b7_17_20 rfl ?_
  refine o_newPE (n := 16) (cap := 16) (ad := "[I") (pc' := 22) (own_word hw 0 rfl) (by decide) rfl (by omega) (by decide) d7_20 (by decide) (by decide) rfl ?_
  intro h36 a36 k36 ea36 na36 X36 F36 E36
  have ne37 : ix ≠ a36 := Nat.ne_of_lt (by rw [ea36]; exact F25.lt)
  have ne38 : po ≠ a36 := Nat.ne_of_lt (by rw [ea36]; exact F31.lt)
  have ne39 : a11 ≠ a36 := Nat.ne_of_lt (by rw [ea36]; exact F34.lt)
  have ol40 : h0.size ≤ a36 := by rw [ea36]; exact Kp33.1
  have F41 := F25.ext X36
  have F42 := F26.ext X36
  have F43 := F27.ext X36
  have F44 := F28.ext X36
  have F45 := F29.ext X36
  have F46 := F30.ext X36
  have F47 := F31.ext X36
  have F48 := F32.ext X36
  have F49 := Kp33.ext X36
  have F50 := F34.ext X36
  have F51 := F35.ext X36
  have G36 := own_repI F36
  have hl36 : (List.replicate 16 (0 : Int32)).length = 16 := List.length_replicate
  refine o_putF (host := "") (ty := (.array .int)) (pc' := 25) (Or.inl (own_word hw 56 rfl)) F45 F41 (Or.inl (own_word hw 57 rfl)) (own_word hw 46 rfl) (by decide) rfl rfl N_ix d7_22 rfl ?_
  intro h52 W52
  have F53 := F41.wr W52
  have F54 := F42.other W52 (Or.inr (slot_ne (t := (.object "com/example/mild_horn/mildhorn/datalog/Relation")) (t' := (.array .int)) (Or.inr (own_word hw 52 rfl)) (Or.inl (own_word hw 57 rfl)) (by decide) (by decide) (by decide)))
  have F55 := F43.other W52 (Or.inr (slot_ne (t := (.array .int)) (t' := (.array .int)) (Or.inr (own_word hw 68 rfl)) (Or.inl (own_word hw 57 rfl)) (by decide) (by decide) (by decide)))
  have F56 := F44.other W52 (Or.inr (slot_ne (t := (.array .int)) (t' := (.array .int)) (Or.inl (own_word hw 55 rfl)) (Or.inl (own_word hw 57 rfl)) (by decide) (by decide) (by decide)))
  have F57 := F45.same W52
  have F58 := F46.other W52 (Or.inr (slot_ne (t := .int) (t' := (.array .int)) (Or.inl (own_word hw 201 rfl)) (Or.inl (own_word hw 57 rfl)) (by decide) (by decide) (by decide)))
  have F59 := F47.other W52 ne_po_ix
  have F60 := F48.wr W52
  have Kp61 := F49.wr W52 (Or.inl (by simp))
  have F62 := F50.wr W52
  have F63 := F51.other W52 (Ne.symm ne12)
  have F64 := E36.wr W52
  have F65 := G36.other W52 (Ne.symm ne37)
  refine o_blk (pc' := 27) (st' := [(.ref po), (.ref ix)]) (ls' := #[.val (.ref ix), .val (.ref r), .val (.ref po)]) b7_25_27 rfl ?_
  refine o_cloneI (W := 1) (cap := 1) (pc' := 30) (own_word hw 58 rfl) (own_word hw 59 rfl) (own_word hw 63 rfl) (own_word hw 61 rfl) (own_word hw 62 rfl) (own_word hw 64 rfl) F59 F60 d7_27 rfl (Nat.le_of_eq rfl) (by decide) (by decide) (by rw [L_po]; omega) (by decide) (by decide) rfl ?_
  intro h66 a66 ea66 na66 X66 F66 E66
  have ne67 : ix ≠ a66 := Nat.ne_of_lt (by rw [ea66]; exact F53.lt)
  have ne68 : po ≠ a66 := Nat.ne_of_lt (by rw [ea66]; exact F59.lt)
  have ne69 : a11 ≠ a66 := Nat.ne_of_lt (by rw [ea66]; exact F62.lt)
  have ne70 : a36 ≠ a66 := Nat.ne_of_lt (by rw [ea66]; exact F64.lt)
  have ol71 : h0.size ≤ a66 := by rw [ea66]; exact Kp61.1
  have F72 := F53.ext X66
  have F73 := F54.ext X66
  have F74 := F55.ext X66
  have F75 := F56.ext X66
  have F76 := F57.ext X66
  have F77 := F58.ext X66
  have F78 := F59.ext X66
  have F79 := F60.ext X66
  have F80 := Kp61.ext X66
  have F81 := F62.ext X66
  have F82 := F63.ext X66
  have F83 := F64.ext X66
  have F84 := F65.ext X66
  refine o_cast (pc' := 33) (own_word hw 65 rfl) (Ins.self E66) d7_30 rfl ?_
  refine o_putF (host := "") (ty := (.array .int)) (pc' := 36) (Or.inl (own_word hw 67 rfl)) F74 F72 (Or.inr ⟨(own_word hw 68 rfl), rfl, rfl⟩) (own_word hw 46 rfl) (by decide) rfl rfl N_ix d7_33 rfl ?_
  intro h85 W85
  have F86 := F72.wr W85
  have F87 := F73.other W85 (Or.inr (slot_ne (t := (.object "com/example/mild_horn/mildhorn/datalog/Relation")) (t' := (.array .int)) (Or.inr (own_word hw 52 rfl)) (Or.inr (own_word hw 68 rfl)) (by decide) (by decide) (by decide)))
  have F88 := F74.same W85
  have F89 := F75.other W85 (Or.inr (slot_ne (t := (.array .int)) (t' := (.array .int)) (Or.inl (own_word hw 55 rfl)) (Or.inr (own_word hw 68 rfl)) (by decide) (by decide) (by decide)))
  have F90 := F76.other W85 (Or.inr (slot_ne (t := (.array .int)) (t' := (.array .int)) (Or.inl (own_word hw 57 rfl)) (Or.inr (own_word hw 68 rfl)) (by decide) (by decide) (by decide)))
  have F91 := F77.other W85 (Or.inr (slot_ne (t := .int) (t' := (.array .int)) (Or.inl (own_word hw 201 rfl)) (Or.inr (own_word hw 68 rfl)) (by decide) (by decide) (by decide)))
  have F92 := F78.other W85 ne_po_ix
  have F93 := F79.wr W85
  have Kp94 := F80.wr W85 (Or.inl (by simp))
  have F95 := F81.wr W85
  have F96 := F82.other W85 (Ne.symm ne12)
  have F97 := F83.wr W85
  have F98 := F84.other W85 (Ne.symm ne37)
  have F99 := F66.other W85 (Ne.symm ne67)
  have F100 := E66.wr W85
  refine o_blk (pc' := 37) (st' := [(.ref ix)]) (ls' := #[.val (.ref ix), .val (.ref r), .val (.ref po)]) b7_36_37 rfl ?_
  refine o_getF (host := "") (pc' := 40) (v := (.ref a11)) (Or.inl (own_word hw 54 rfl)) F89 d7_37 rfl ?_
  refine o_blk (pc' := 41) (st' := [(.int (-1 : Int32)), (.ref a11)]) (ls' := #[.val (.ref ix), .val (.ref r), .val (.ref po)]) b7_40_41 rfl ?_
  refine o_callS (W := 0) (argsL := [(.ref a11), (.int (-1 : Int32))]) (rest := []) (pc' := 44) (own_word hw 69 rfl) (own_word hw 70 rfl) (own_word hw 71 rfl) (own_word hw 72 rfl) (by decide) (fun hE => rm_fill l Z a0 hw h85 hE a11 k11 (-1 : Int32) F96 hl11 na11) d7_41 pd_2 rfl rfl rfl (Nat.le_of_eq rfl) (by decide) (by decide) (by decide) (by decide) rfl ?_
  rintro _ h101 ⟨rfl, F101, K101⟩ hs102
  have F103 := F86.keep K101
  have F104 := F87.keep K101 (ninS ne12 nin0)
  have F105 := F88.keep K101 (ninS ne12 nin0)
  have F106 := F89.keep K101 (ninS ne12 nin0)
  have F107 := F90.keep K101 (ninS ne12 nin0)
  have F108 := F91.keep K101 (ninS ne12 nin0)
  have F109 := F92.keep K101 (ninS ne13 nin0)
  have F110 := F93.keep K101
  have F111 := Kp94.trans K101 (allS (Or.inr ol14) all0)
  have F112 := F95.keep K101
  have F114 := F97.keep K101
  have F115 := F98.keep K101 (ninS (Ne.symm ne39) nin0)
  have F116 := F99.keep K101 (ninS (Ne.symm ne69) nin0)
  have F117 := F100.keep K101
  exact o_retV d7_44 (by decide) (by decide) rfl ⟨rfl, a66, a11, a36, kp0, k11, k36, ⟨F103, F104, F105, F106, F107, F108⟩, F116, F101, F115, ⟨ol71, ol14, ol40⟩, ⟨na66, na11, na36⟩, ⟨(Ne.symm ne69), (Ne.symm ne70), ne39⟩, F111⟩
set_option maxRecDepth 65536 in
set_option maxHeartbeats 40000000 in
theorem rm_rel (l : Launch) (Z : State) (a0 : Array Value) (hw : ∀ d ∈ tables_1, d.before a0 Z = true)  (h0 : Heap) (hE0 : Ext Z.heap h0) (r : Addr) (E_r : Exa Z h0 r "com/example/mild_horn/mildhorn/datalog/Relation") (F_r_arity : Fld Z h0 r "com/example/mild_horn/mildhorn/datalog/Relation" "arity" "I" (.int (0 : Int32))) (F_r_values : Fld Z h0 r "com/example/mild_horn/mildhorn/datalog/Relation" "values" "[I" .null) (F_r_size : Fld Z h0 r "com/example/mild_horn/mildhorn/datalog/Relation" "size" "I" (.int (0 : Int32))) (F_r_stable : Fld Z h0 r "com/example/mild_horn/mildhorn/datalog/Relation" "stable" "I" (.int (0 : Int32))) (F_r_known : Fld Z h0 r "com/example/mild_horn/mildhorn/datalog/Relation" "known" "I" (.int (0 : Int32))) (F_r_all : Fld Z h0 r "com/example/mild_horn/mildhorn/datalog/Relation" "all" "Lcom/example/mild_horn/mildhorn/datalog/Relation$Index;" .null) (F_r_indexes : Fld Z h0 r "com/example/mild_horn/mildhorn/datalog/Relation" "indexes" "Ljava/util/List;" .null) (N_r : Z.heap.size ≤ r) :
    OCtr l Z (⟨"com/example/mild_horn/mildhorn/datalog/Relation", "<init>", "(I)V"⟩ : MethodName) prog_24_method_1_code 4 none ({ frames := 4, cells := 8, slots := 59, locals := 51 } : Room) #[(.ref r), (.int (1 : Int32))] h0 (fun v h => v = none ∧ ∃ (ix al ed vals bk nx ps : Addr), RI Z h r ix al ed vals bk nx ps 0 0 0 ∧ RN Z [r, ix, al, ed, vals, bk, nx, ps] ∧ (∀ a ∈ [ix, al, ed, vals, bk, nx, ps], h0.size ≤ a) ∧ Keep h0 h [r]) := by
  refine o_body (ls0 := #[.val (.ref r), .val (.int (1 : Int32)), .unset, .unset]) (plainFor_of_name pn_5) hE0 (fun m => by first | (simp [entryFrame, mkF, argsToLocals, Value.category]; done) | rfl) ?_
  intro pG eG sG mG bG meG cG
  refine o_blk (pc' := 1) (st' := [(.ref r)]) (ls' := #[.val (.ref r), .val (.int (1 : Int32)), .unset, .unset]) b1_0_1 rfl ?_
  refine o_initO (W := 0) (pc' := 4) (own_word hw 7 rfl) (own_word hw 8 rfl) (own_word hw 9 rfl) d1_1 rfl (Nat.le_of_eq rfl) (by decide) (by decide) rfl ?_
  refine o_blk (pc' := 5) (st' := [(.ref r)]) (ls' := #[.val (.ref r), .val (.int (1 : Int32)), .unset, .unset]) b1_4_5 rfl ?_
  refine o_newO (pc' := 8) (own_word hw 10 rfl) (own_word hw 11 rfl) (own_word hw 12 rfl) d1_5 (by decide) (by decide) rfl ?_
  intro h1 a1 ea1 na1 X1 E1 D1
  have ne2 : r ≠ a1 := Nat.ne_of_lt (by rw [ea1]; exact E_r.lt)
  have ol3 : h0.size ≤ a1 := by rw [ea1]; exact (Keep.refl h0 [r]).1
  have F4 := E_r.ext X1
  have F5 := F_r_arity.ext X1
  have F6 := F_r_values.ext X1
  have F7 := F_r_size.ext X1
  have F8 := F_r_stable.ext X1
  have F9 := F_r_known.ext X1
  have F10 := F_r_all.ext X1
  have F11 := F_r_indexes.ext X1
  have F12 := (Keep.refl h0 [r]).ext X1
  have F13 : Fld Z h1 a1 "java/util/AbstractList" "modCount" "I" (.int (0 : Int32)) := D1 (Or.inl (own_word hw 30 rfl)) (ty := .int) (by decide)
  have F14 : Fld Z h1 a1 "java/util/ArrayList" "elementData" "[Ljava/lang/Object;" .null := D1 (Or.inl (own_word hw 34 rfl)) (ty := (.array (.object "java/lang/Object"))) (by decide)
  have F15 : Fld Z h1 a1 "java/util/ArrayList" "size" "I" (.int (0 : Int32)) := D1 (Or.inl (own_word hw 87 rfl)) (ty := .int) (by decide)
  refine o_blk (pc' := 10) (st' := [(.int (1 : Int32)), (.ref a1), (.ref a1), (.ref r)]) (ls' := #[.val (.ref r), .val (.int (1 : Int32)), .unset, .unset]) b1_8_10 rfl ?_
  refine o_callI (W := 2) (argsL := [(.int (1 : Int32))]) (rest := [(.ref a1), (.ref r)]) (pc' := 13) rfl (own_word hw 13 rfl) (own_word hw 14 rfl) (own_word hw 15 rfl) (own_word hw 12 rfl) (by decide) (fun hE => rm_al l Z a0 hw h1 hE a1 E1 F13 F14 F15 na1) d1_10 pd_3 rfl rfl rfl (Nat.le_of_eq rfl) (by decide) (by decide) (by decide) (by decide) rfl ?_
  rintro _ hal ⟨rfl, ed, ke, Lal, Aed, Oed, oed, ned, Kal⟩ hs16
  have F17 := F4.keep Kal
  have F18 := F5.keep Kal (ninS ne2 nin0)
  have F19 := F6.keep Kal (ninS ne2 nin0)
  have F20 := F7.keep Kal (ninS ne2 nin0)
  have F21 := F8.keep Kal (ninS ne2 nin0)
  have F22 := F9.keep Kal (ninS ne2 nin0)
  have F23 := F10.keep Kal (ninS ne2 nin0)
  have F24 := F11.keep Kal (ninS ne2 nin0)
  have F25 := F12.trans Kal (allS (Or.inr ol3) all0)
  have F26 := E1.keep Kal
  have ne_r_ed : r ≠ ed := Nat.ne_of_lt (Nat.lt_of_lt_of_le F11.lt oed)
  have ne_a1_ed : a1 ≠ ed := Nat.ne_of_lt (Nat.lt_of_lt_of_le F15.lt oed)
  have oled : h0.size ≤ ed := Nat.le_trans F12.1 oed
  refine o_putF (host := "") (ty := (.object "java/util/List")) (pc' := 16) (Or.inl (own_word hw 35 rfl)) F24 F17 (Or.inr ⟨(own_word hw 36 rfl), rfl, rfl⟩) (own_word hw 2 rfl) (by decide) rfl rfl N_r d1_13 rfl ?_
  intro h30 W30
  have F31 := F17.wr W30
  have F32 := F18.other W30 (Or.inr (slot_ne (t := .int) (t' := (.object "java/util/List")) (Or.inr (own_word hw 38 rfl)) (Or.inr (own_word hw 36 rfl)) (by decide) (by decide) (by decide)))
  have F33 := F19.other W30 (Or.inr (slot_ne (t := (.array .int)) (t' := (.object "java/util/List")) (Or.inl (own_word hw 44 rfl)) (Or.inr (own_word hw 36 rfl)) (by decide) (by decide) (by decide)))
  have F34 := F20.other W30 (Or.inr (slot_ne (t := .int) (t' := (.object "java/util/List")) (Or.inl (own_word hw 108 rfl)) (Or.inr (own_word hw 36 rfl)) (by decide) (by decide) (by decide)))
  have F35 := F21.other W30 (Or.inr (slot_ne (t := .int) (t' := (.object "java/util/List")) (Or.inl (own_word hw 106 rfl)) (Or.inr (own_word hw 36 rfl)) (by decide) (by decide) (by decide)))
  have F36 := F22.other W30 (Or.inr (slot_ne (t := .int) (t' := (.object "java/util/List")) (Or.inl (own_word hw 104 rfl)) (Or.inr (own_word hw 36 rfl)) (by decide) (by decide) (by decide)))
  have F37 := F23.other W30 (Or.inr (slot_ne (t := (.object "com/example/mild_horn/mildhorn/datalog/Relation$Index")) (t' := (.object "java/util/List")) (Or.inr (own_word hw 74 rfl)) (Or.inr (own_word hw 36 rfl)) (by decide) (by decide) (by decide)))
  have F38 := F24.same W30
  have Kp39 := F25.wr W30 (Or.inl (by simp))
  have F40 := Lal.1.wr W30
  have F41 := Lal.2.1.other W30 (Or.inl (Ne.symm ne2))
  have F42 := Lal.2.2.1.other W30 (Or.inl (Ne.symm ne2))
  have F43 := Lal.2.2.2.other W30 (Or.inl (Ne.symm ne2))
  have F44 := Aed.other W30 (Ne.symm ne_r_ed)
  refine o_blk (pc' := 18) (st' := [(.int (1 : Int32)), (.ref r)]) (ls' := #[.val (.ref r), .val (.int (1 : Int32)), .unset, .unset]) b1_16_18 rfl ?_
  refine o_putF (host := "") (ty := .int) (pc' := 21) (Or.inl (own_word hw 37 rfl)) F32 F31 (Or.inr ⟨(own_word hw 38 rfl), rfl, rfl⟩) (own_word hw 2 rfl) (by decide) rfl rfl N_r d1_18 rfl ?_
  intro h45 W45
  have F46 := F31.wr W45
  have F47 := F32.same W45
  have F48 := F33.other W45 (Or.inr (slot_ne (t := (.array .int)) (t' := .int) (Or.inl (own_word hw 44 rfl)) (Or.inr (own_word hw 38 rfl)) (by decide) (by decide) (by decide)))
  have F49 := F34.other W45 (Or.inr (slot_ne (t := .int) (t' := .int) (Or.inl (own_word hw 108 rfl)) (Or.inr (own_word hw 38 rfl)) (by decide) (by decide) (by decide)))
  have F50 := F35.other W45 (Or.inr (slot_ne (t := .int) (t' := .int) (Or.inl (own_word hw 106 rfl)) (Or.inr (own_word hw 38 rfl)) (by decide) (by decide) (by decide)))
  have F51 := F36.other W45 (Or.inr (slot_ne (t := .int) (t' := .int) (Or.inl (own_word hw 104 rfl)) (Or.inr (own_word hw 38 rfl)) (by decide) (by decide) (by decide)))
  have F52 := F37.other W45 (Or.inr (slot_ne (t := (.object "com/example/mild_horn/mildhorn/datalog/Relation$Index")) (t' := .int) (Or.inr (own_word hw 74 rfl)) (Or.inr (own_word hw 38 rfl)) (by decide) (by decide) (by decide)))
  have F53 := F38.other W45 (Or.inr (slot_ne (t := (.object "java/util/List")) (t' := .int) (Or.inr (own_word hw 36 rfl)) (Or.inr (own_word hw 38 rfl)) (by decide) (by decide) (by decide)))
  have Kp54 := Kp39.wr W45 (Or.inl (by simp))
  have F55 := F40.wr W45
  have F56 := F41.other W45 (Or.inl (Ne.symm ne2))
  have F57 := F42.other W45 (Or.inl (Ne.symm ne2))
  have F58 := F43.other W45 (Or.inl (Ne.symm ne2))
  have F59 := F44.other W45 (Ne.symm ne_r_ed)
  refine o_blk (pc' := 26) (st' := [(.int (1 : Int32)), (.int (1 : Int32)), (.int (16 : Int32)), (.ref r)]) (ls' := #[.val (.ref r), .val (.int (1 : Int32)), .unset, .unset]) b1_21_26 rfl ?_
  refine o_callS (W := 2) (argsL := [(.int (1 : Int32)), (.int (1 : Int32))]) (rest := [(.int (16 : Int32)), (.ref r)]) (pc' := 29) (own_word hw 39 rfl) (own_word hw 40 rfl) (own_word hw 41 rfl) (own_word hw 42 rfl) (by decide) (fun hE => rm_max l Z a0 hw (1 : Int32) (1 : Int32) h45 hE) d1_26 pd_4 rfl rfl rfl (Nat.le_of_eq rfl) (by decide) (by decide) (by decide) (by decide) rfl ?_
  rintro _ _ ⟨rfl, rfl⟩ hs60
  rw [show (if (1 : Int32) < (1 : Int32) then (1 : Int32) else (1 : Int32)) = (1 : Int32) from rfl]
  refine o_blk (pc' := 30) (st' := [(.int (16 : Int32)), (.ref r)]) (ls' := #[.val (.ref r), .val (.int (1 : Int32)), .unset, .unset]) b1_29_30 rfl ?_
  refine o_newPE (n := 16) (cap := 16) (ad := "[I") (pc' := 32) (own_word hw 0 rfl) (by decide) rfl (by omega) (by decide) d1_30 (by decide) (by decide) rfl ?_
  intro h61 a61 k61 ea61 na61 X61 F61 E61
  have ne62 : r ≠ a61 := Nat.ne_of_lt (by rw [ea61]; exact F46.lt)
  have ne63 : a1 ≠ a61 := Nat.ne_of_lt (by rw [ea61]; exact F55.lt)
  have ne64 : ed ≠ a61 := Nat.ne_of_lt (by rw [ea61]; exact F59.lt)
  have ol65 : h0.size ≤ a61 := by rw [ea61]; exact Kp54.1
  have F66 := F46.ext X61
  have F67 := F47.ext X61
  have F68 := F48.ext X61
  have F69 := F49.ext X61
  have F70 := F50.ext X61
  have F71 := F51.ext X61
  have F72 := F52.ext X61
  have F73 := F53.ext X61
  have F74 := Kp54.ext X61
  have F75 := F55.ext X61
  have F76 := F56.ext X61
  have F77 := F57.ext X61
  have F78 := F58.ext X61
  have F79 := F59.ext X61
  have G61 := own_repI F61
  have hl61 : (List.replicate 16 (0 : Int32)).length = 16 := List.length_replicate
  refine o_putF (host := "") (ty := (.array .int)) (pc' := 35) (Or.inl (own_word hw 43 rfl)) F68 F66 (Or.inl (own_word hw 44 rfl)) (own_word hw 2 rfl) (by decide) rfl rfl N_r d1_32 rfl ?_
  intro h80 W80
  have F81 := F66.wr W80
  have F82 := F67.other W80 (Or.inr (slot_ne (t := .int) (t' := (.array .int)) (Or.inr (own_word hw 38 rfl)) (Or.inl (own_word hw 44 rfl)) (by decide) (by decide) (by decide)))
  have F83 := F68.same W80
  have F84 := F69.other W80 (Or.inr (slot_ne (t := .int) (t' := (.array .int)) (Or.inl (own_word hw 108 rfl)) (Or.inl (own_word hw 44 rfl)) (by decide) (by decide) (by decide)))
  have F85 := F70.other W80 (Or.inr (slot_ne (t := .int) (t' := (.array .int)) (Or.inl (own_word hw 106 rfl)) (Or.inl (own_word hw 44 rfl)) (by decide) (by decide) (by decide)))
  have F86 := F71.other W80 (Or.inr (slot_ne (t := .int) (t' := (.array .int)) (Or.inl (own_word hw 104 rfl)) (Or.inl (own_word hw 44 rfl)) (by decide) (by decide) (by decide)))
  have F87 := F72.other W80 (Or.inr (slot_ne (t := (.object "com/example/mild_horn/mildhorn/datalog/Relation$Index")) (t' := (.array .int)) (Or.inr (own_word hw 74 rfl)) (Or.inl (own_word hw 44 rfl)) (by decide) (by decide) (by decide)))
  have F88 := F73.other W80 (Or.inr (slot_ne (t := (.object "java/util/List")) (t' := (.array .int)) (Or.inr (own_word hw 36 rfl)) (Or.inl (own_word hw 44 rfl)) (by decide) (by decide) (by decide)))
  have Kp89 := F74.wr W80 (Or.inl (by simp))
  have F90 := F75.wr W80
  have F91 := F76.other W80 (Or.inl (Ne.symm ne2))
  have F92 := F77.other W80 (Or.inl (Ne.symm ne2))
  have F93 := F78.other W80 (Or.inl (Ne.symm ne2))
  have F94 := F79.other W80 (Ne.symm ne_r_ed)
  have F95 := E61.wr W80
  have F96 := G61.other W80 (Ne.symm ne62)
  refine o_blk (pc' := 36) (st' := [(.int (1 : Int32))]) (ls' := #[.val (.ref r), .val (.int (1 : Int32)), .unset, .unset]) b1_35_36 rfl ?_
  refine o_newPE (n := 1) (cap := 1) (ad := "[I") (pc' := 38) (own_word hw 0 rfl) (by decide) rfl (by omega) (by decide) d1_36 (by decide) (by decide) rfl ?_
  intro h97 a97 k97 ea97 na97 X97 F97 E97
  have ne98 : r ≠ a97 := Nat.ne_of_lt (by rw [ea97]; exact F81.lt)
  have ne99 : a1 ≠ a97 := Nat.ne_of_lt (by rw [ea97]; exact F90.lt)
  have ne100 : ed ≠ a97 := Nat.ne_of_lt (by rw [ea97]; exact F94.lt)
  have ne101 : a61 ≠ a97 := Nat.ne_of_lt (by rw [ea97]; exact F95.lt)
  have ol102 : h0.size ≤ a97 := by rw [ea97]; exact Kp89.1
  have F103 := F81.ext X97
  have F104 := F82.ext X97
  have F105 := F83.ext X97
  have F106 := F84.ext X97
  have F107 := F85.ext X97
  have F108 := F86.ext X97
  have F109 := F87.ext X97
  have F110 := F88.ext X97
  have F111 := Kp89.ext X97
  have F112 := F90.ext X97
  have F113 := F91.ext X97
  have F114 := F92.ext X97
  have F115 := F93.ext X97
  have F116 := F94.ext X97
  have F117 := F95.ext X97
  have F118 := F96.ext X97
  have G97 := own_repI F97
  have hl97 : (List.replicate 1 (0 : Int32)).length = 1 := List.length_replicate
  refine o_blk (pc' := 39) (st' := []) (ls' := #[.val (.ref r), .val (.int (1 : Int32)), .val (.ref a97), .unset]) b1_38_39 rfl ?_
  refine o_blk (pc' := 41) (st' := []) (ls' := #[.val (.ref r), .val (.int (1 : Int32)), .val (.ref a97), .val (.int (0 : Int32))]) b1_39_41 rfl ?_
  refine o_blk (pc' := 43) (st' := [(.int (1 : Int32)), (.int (0 : Int32))]) (ls' := #[.val (.ref r), .val (.int (1 : Int32)), .val (.ref a97), .val (.int (0 : Int32))]) b1_41_43 rfl ?_
  refine o_icN (pc' := 46) d1_43 rfl (by decide : (0 : Int32) < (1 : Int32)) ?_
  refine o_blk (pc' := 49) (st' := [(.int (0 : Int32)), (.int (0 : Int32)), (.ref a97)]) (ls' := #[.val (.ref r), .val (.int (1 : Int32)), .val (.ref a97), .val (.int (0 : Int32))]) b1_46_49 rfl ?_
  refine o_iast (i := 0) (pc' := 50) G97 rfl (by rw [List.length_map, hl97]; omega) na97 d1_49 rfl ?_
  intro h119 W119
  have F120 := F103.wr W119
  have F121 := F104.other W119 (Or.inl ne98)
  have F122 := F105.other W119 (Or.inl ne98)
  have F123 := F106.other W119 (Or.inl ne98)
  have F124 := F107.other W119 (Or.inl ne98)
  have F125 := F108.other W119 (Or.inl ne98)
  have F126 := F109.other W119 (Or.inl ne98)
  have F127 := F110.other W119 (Or.inl ne98)
  have Kp128 := F111.wr W119 (Or.inr ol102)
  have F129 := F112.wr W119
  have F130 := F113.other W119 (Or.inl ne99)
  have F131 := F114.other W119 (Or.inl ne99)
  have F132 := F115.other W119 (Or.inl ne99)
  have F133 := F116.other W119 ne100
  have F134 := F117.wr W119
  have F135 := F118.other W119 ne101
  have F136 := E97.wr W119
  have F137 := own_setI G97 W119
  have hl138 : ((List.replicate 1 (0 : Int32)).set 0 (0 : Int32)).length = 1 := by rw [List.length_set]; exact hl97
  refine o_blk (pc' := 53) (st' := []) (ls' := #[.val (.ref r), .val (.int (1 : Int32)), .val (.ref a97), .val (.int (1 : Int32))]) b1_50_53 rfl ?_
  refine o_goto (pc' := 41) d1_53 (by decide) (by decide) ?_
  refine o_blk (pc' := 43) (st' := [(.int (1 : Int32)), (.int (1 : Int32))]) (ls' := #[.val (.ref r), .val (.int (1 : Int32)), .val (.ref a97), .val (.int (1 : Int32))]) b1_41_43 rfl ?_
  refine o_icY (pc' := 56) d1_43 (by decide) (by decide) (by decide : ¬ (1 : Int32) < (1 : Int32)) ?_
  refine o_blk (pc' := 57) (st' := [(.ref r)]) (ls' := #[.val (.ref r), .val (.int (1 : Int32)), .val (.ref a97), .val (.int (1 : Int32))]) b1_56_57 rfl ?_
  refine o_newO (pc' := 60) (own_word hw 45 rfl) (own_word hw 46 rfl) (own_word hw 47 rfl) d1_57 (by decide) (by decide) rfl ?_
  intro h139 a139 ea139 na139 X139 E139 D139
  have ne140 : r ≠ a139 := Nat.ne_of_lt (by rw [ea139]; exact F120.lt)
  have ne141 : a1 ≠ a139 := Nat.ne_of_lt (by rw [ea139]; exact F129.lt)
  have ne142 : ed ≠ a139 := Nat.ne_of_lt (by rw [ea139]; exact F133.lt)
  have ne143 : a61 ≠ a139 := Nat.ne_of_lt (by rw [ea139]; exact F134.lt)
  have ne144 : a97 ≠ a139 := Nat.ne_of_lt (by rw [ea139]; exact F136.lt)
  have ol145 : h0.size ≤ a139 := by rw [ea139]; exact Kp128.1
  have F146 := F120.ext X139
  have F147 := F121.ext X139
  have F148 := F122.ext X139
  have F149 := F123.ext X139
  have F150 := F124.ext X139
  have F151 := F125.ext X139
  have F152 := F126.ext X139
  have F153 := F127.ext X139
  have F154 := Kp128.ext X139
  have F155 := F129.ext X139
  have F156 := F130.ext X139
  have F157 := F131.ext X139
  have F158 := F132.ext X139
  have F159 := F133.ext X139
  have F160 := F134.ext X139
  have F161 := F135.ext X139
  have F162 := F136.ext X139
  have F163 := F137.ext X139
  have F164 : Fld Z h139 a139 "com/example/mild_horn/mildhorn/datalog/Relation$Index" "this$0" "Lcom/example/mild_horn/mildhorn/datalog/Relation;" .null := D139 (Or.inr (own_word hw 52 rfl)) (ty := (.object "com/example/mild_horn/mildhorn/datalog/Relation")) (by decide)
  have F165 : Fld Z h139 a139 "com/example/mild_horn/mildhorn/datalog/Relation$Index" "positions" "[I" .null := D139 (Or.inr (own_word hw 68 rfl)) (ty := (.array .int)) (by decide)
  have F166 : Fld Z h139 a139 "com/example/mild_horn/mildhorn/datalog/Relation$Index" "buckets" "[I" .null := D139 (Or.inl (own_word hw 55 rfl)) (ty := (.array .int)) (by decide)
  have F167 : Fld Z h139 a139 "com/example/mild_horn/mildhorn/datalog/Relation$Index" "next" "[I" .null := D139 (Or.inl (own_word hw 57 rfl)) (ty := (.array .int)) (by decide)
  have F168 : Fld Z h139 a139 "com/example/mild_horn/mildhorn/datalog/Relation$Index" "linked" "I" (.int (0 : Int32)) := D139 (Or.inl (own_word hw 201 rfl)) (ty := .int) (by decide)
  refine o_blk (pc' := 63) (st' := [(.ref a97), (.ref r), (.ref a139), (.ref a139), (.ref r)]) (ls' := #[.val (.ref r), .val (.int (1 : Int32)), .val (.ref a97), .val (.int (1 : Int32))]) b1_60_63 rfl ?_
  refine o_callIR (W := 2) (argsL := [(.ref r), (.ref a97)]) (rest := [(.ref a139), (.ref r)]) (pc' := 66) rfl (own_word hw 48 rfl) (own_word hw 49 rfl) (own_word hw 50 rfl) (own_word hw 47 rfl) (by decide) (fun hE => rm_ix l Z a0 hw h139 hE a139 r a97 k97 E139 F164 F165 F166 F167 F168 F163 hl138 F162 na139 ne144) d1_63 pd_5 rfl rfl rfl (Nat.le_of_eq rfl) (by decide) (by decide) (by decide) (by decide) rfl ?_
  rintro _ hix ⟨rfl, ps, bk, nx, k1, k2, k3, Iix, Aps, Abk, Anx, gix, zix, dix, Kix⟩ hs169
  have F170 := F146.keep Kix
  have F171 := F147.keep Kix (ninS ne140 nin0)
  have F172 := F148.keep Kix (ninS ne140 nin0)
  have F173 := F149.keep Kix (ninS ne140 nin0)
  have F174 := F150.keep Kix (ninS ne140 nin0)
  have F175 := F151.keep Kix (ninS ne140 nin0)
  have F176 := F152.keep Kix (ninS ne140 nin0)
  have F177 := F153.keep Kix (ninS ne140 nin0)
  have F178 := F154.trans Kix (allS (Or.inr ol145) all0)
  have F179 := F155.keep Kix
  have F180 := F156.keep Kix (ninS ne141 nin0)
  have F181 := F157.keep Kix (ninS ne141 nin0)
  have F182 := F158.keep Kix (ninS ne141 nin0)
  have F183 := F159.keep Kix (ninS ne142 nin0)
  have F184 := F160.keep Kix
  have F185 := F161.keep Kix (ninS ne143 nin0)
  have F186 := F162.keep Kix
  have F187 := F163.keep Kix (ninS ne144 nin0)
  have F188 := E139.keep Kix
  have ne_r_ps : r ≠ ps := Nat.ne_of_lt (Nat.lt_of_lt_of_le F153.lt gix.1)
  have ne_a1_ps : a1 ≠ ps := Nat.ne_of_lt (Nat.lt_of_lt_of_le F158.lt gix.1)
  have ne_ed_ps : ed ≠ ps := Nat.ne_of_lt (Nat.lt_of_lt_of_le F159.lt gix.1)
  have ne_a61_ps : a61 ≠ ps := Nat.ne_of_lt (Nat.lt_of_lt_of_le F161.lt gix.1)
  have ne_a97_ps : a97 ≠ ps := Nat.ne_of_lt (Nat.lt_of_lt_of_le F163.lt gix.1)
  have ne_a139_ps : a139 ≠ ps := Nat.ne_of_lt (Nat.lt_of_lt_of_le F168.lt gix.1)
  have ol_ps : h0.size ≤ ps := Nat.le_trans F154.1 gix.1
  have ne_r_bk : r ≠ bk := Nat.ne_of_lt (Nat.lt_of_lt_of_le F153.lt gix.2.1)
  have ne_a1_bk : a1 ≠ bk := Nat.ne_of_lt (Nat.lt_of_lt_of_le F158.lt gix.2.1)
  have ne_ed_bk : ed ≠ bk := Nat.ne_of_lt (Nat.lt_of_lt_of_le F159.lt gix.2.1)
  have ne_a61_bk : a61 ≠ bk := Nat.ne_of_lt (Nat.lt_of_lt_of_le F161.lt gix.2.1)
  have ne_a97_bk : a97 ≠ bk := Nat.ne_of_lt (Nat.lt_of_lt_of_le F163.lt gix.2.1)
  have ne_a139_bk : a139 ≠ bk := Nat.ne_of_lt (Nat.lt_of_lt_of_le F168.lt gix.2.1)
  have ol_bk : h0.size ≤ bk := Nat.le_trans F154.1 gix.2.1
  have ne_r_nx : r ≠ nx := Nat.ne_of_lt (Nat.lt_of_lt_of_le F153.lt gix.2.2)
  have ne_a1_nx : a1 ≠ nx := Nat.ne_of_lt (Nat.lt_of_lt_of_le F158.lt gix.2.2)
  have ne_ed_nx : ed ≠ nx := Nat.ne_of_lt (Nat.lt_of_lt_of_le F159.lt gix.2.2)
  have ne_a61_nx : a61 ≠ nx := Nat.ne_of_lt (Nat.lt_of_lt_of_le F161.lt gix.2.2)
  have ne_a97_nx : a97 ≠ nx := Nat.ne_of_lt (Nat.lt_of_lt_of_le F163.lt gix.2.2)
  have ne_a139_nx : a139 ≠ nx := Nat.ne_of_lt (Nat.lt_of_lt_of_le F168.lt gix.2.2)
  have ol_nx : h0.size ≤ nx := Nat.le_trans F154.1 gix.2.2
  refine o_putF (host := "") (ty := (.object "com/example/mild_horn/mildhorn/datalog/Relation$Index")) (pc' := 69) (Or.inl (own_word hw 73 rfl)) F176 F170 (Or.inr ⟨(own_word hw 74 rfl), rfl, rfl⟩) (own_word hw 2 rfl) (by decide) rfl rfl N_r d1_66 rfl ?_
  intro h194 W194
  have F195 := F170.wr W194
  have F196 := F171.other W194 (Or.inr (slot_ne (t := .int) (t' := (.object "com/example/mild_horn/mildhorn/datalog/Relation$Index")) (Or.inr (own_word hw 38 rfl)) (Or.inr (own_word hw 74 rfl)) (by decide) (by decide) (by decide)))
  have F197 := F172.other W194 (Or.inr (slot_ne (t := (.array .int)) (t' := (.object "com/example/mild_horn/mildhorn/datalog/Relation$Index")) (Or.inl (own_word hw 44 rfl)) (Or.inr (own_word hw 74 rfl)) (by decide) (by decide) (by decide)))
  have F198 := F173.other W194 (Or.inr (slot_ne (t := .int) (t' := (.object "com/example/mild_horn/mildhorn/datalog/Relation$Index")) (Or.inl (own_word hw 108 rfl)) (Or.inr (own_word hw 74 rfl)) (by decide) (by decide) (by decide)))
  have F199 := F174.other W194 (Or.inr (slot_ne (t := .int) (t' := (.object "com/example/mild_horn/mildhorn/datalog/Relation$Index")) (Or.inl (own_word hw 106 rfl)) (Or.inr (own_word hw 74 rfl)) (by decide) (by decide) (by decide)))
  have F200 := F175.other W194 (Or.inr (slot_ne (t := .int) (t' := (.object "com/example/mild_horn/mildhorn/datalog/Relation$Index")) (Or.inl (own_word hw 104 rfl)) (Or.inr (own_word hw 74 rfl)) (by decide) (by decide) (by decide)))
  have F201 := F176.same W194
  have F202 := F177.other W194 (Or.inr (slot_ne (t := (.object "java/util/List")) (t' := (.object "com/example/mild_horn/mildhorn/datalog/Relation$Index")) (Or.inr (own_word hw 36 rfl)) (Or.inr (own_word hw 74 rfl)) (by decide) (by decide) (by decide)))
  have Kp203 := F178.wr W194 (Or.inl (by simp))
  have F204 := F179.wr W194
  have F205 := F180.other W194 (Or.inl (Ne.symm ne2))
  have F206 := F181.other W194 (Or.inl (Ne.symm ne2))
  have F207 := F182.other W194 (Or.inl (Ne.symm ne2))
  have F208 := F183.other W194 (Ne.symm ne_r_ed)
  have F209 := F184.wr W194
  have F210 := F185.other W194 (Ne.symm ne62)
  have F211 := F186.wr W194
  have F212 := F187.other W194 (Ne.symm ne98)
  have F213 := Iix.1.wr W194
  have F214 := Iix.2.1.other W194 (Or.inl (Ne.symm ne140))
  have F215 := Iix.2.2.1.other W194 (Or.inl (Ne.symm ne140))
  have F216 := Iix.2.2.2.1.other W194 (Or.inl (Ne.symm ne140))
  have F217 := Iix.2.2.2.2.1.other W194 (Or.inl (Ne.symm ne140))
  have F218 := Iix.2.2.2.2.2.other W194 (Or.inl (Ne.symm ne140))
  have F219 := Aps.other W194 (Ne.symm ne_r_ps)
  have F220 := Abk.other W194 (Ne.symm ne_r_bk)
  have F221 := Anx.other W194 (Ne.symm ne_r_nx)
  refine o_blk (pc' := 70) (st' := [(.ref r)]) (ls' := #[.val (.ref r), .val (.int (1 : Int32)), .val (.ref a97), .val (.int (1 : Int32))]) b1_69_70 rfl ?_
  refine o_getF (host := "") (pc' := 73) (v := (.ref a1)) (Or.inl (own_word hw 35 rfl)) F202 d1_70 rfl ?_
  refine o_blk (pc' := 74) (st' := [(.ref r), (.ref a1)]) (ls' := #[.val (.ref r), .val (.int (1 : Int32)), .val (.ref a97), .val (.int (1 : Int32))]) b1_73_74 rfl ?_
  refine o_getF (host := "") (pc' := 77) (v := (.ref a139)) (Or.inl (own_word hw 73 rfl)) F201 d1_74 rfl ?_
  refine o_callF (W := 0) (argsL := [(.ref a139)]) (rest := []) (pc' := 82) (own_word hw 75 rfl) (own_word hw 76 rfl) (own_word hw 77 rfl) rfl (own_word hw 78 rfl) (own_word hw 79 rfl) (own_word hw 80 rfl) (own_word hw 81 rfl) (own_word hw 82 rfl) (own_word hw 83 rfl) (own_word hw 12 rfl) (by decide) F204 (fun hE => rm_add1 l Z a0 hw h194 hE a1 a139 ed ke Oed 0 F204 F205 F206 F207 F208 F213 na1 ned ne_a1_ed ne141 ne142) d1_77 pd_6 rfl rfl rfl (Nat.le_of_eq rfl) (by decide) (by decide) (by decide) (by decide) rfl ?_
  rintro _ had ⟨rfl, Lad, Aad, Kad⟩ hs222
  have F223 := F195.keep Kad
  have F224 := F196.keep Kad (ninS ne2 (ninS ne_r_ed nin0))
  have F225 := F197.keep Kad (ninS ne2 (ninS ne_r_ed nin0))
  have F226 := F198.keep Kad (ninS ne2 (ninS ne_r_ed nin0))
  have F227 := F199.keep Kad (ninS ne2 (ninS ne_r_ed nin0))
  have F228 := F200.keep Kad (ninS ne2 (ninS ne_r_ed nin0))
  have F229 := F201.keep Kad (ninS ne2 (ninS ne_r_ed nin0))
  have F230 := F202.keep Kad (ninS ne2 (ninS ne_r_ed nin0))
  have F231 := Kp203.trans Kad (allS (Or.inr ol3) (allS (Or.inr oled) all0))
  have F232 := F204.keep Kad
  have F237 := F209.keep Kad
  have F238 := F210.keep Kad (ninS (Ne.symm ne63) (ninS (Ne.symm ne64) nin0))
  have F239 := F211.keep Kad
  have F240 := F212.keep Kad (ninS (Ne.symm ne99) (ninS (Ne.symm ne100) nin0))
  have F241 := F213.keep Kad
  have F242 := F214.keep Kad (ninS (Ne.symm ne141) (ninS (Ne.symm ne142) nin0))
  have F243 := F215.keep Kad (ninS (Ne.symm ne141) (ninS (Ne.symm ne142) nin0))
  have F244 := F216.keep Kad (ninS (Ne.symm ne141) (ninS (Ne.symm ne142) nin0))
  have F245 := F217.keep Kad (ninS (Ne.symm ne141) (ninS (Ne.symm ne142) nin0))
  have F246 := F218.keep Kad (ninS (Ne.symm ne141) (ninS (Ne.symm ne142) nin0))
  have F247 := F219.keep Kad (ninS (Ne.symm ne_a1_ps) (ninS (Ne.symm ne_ed_ps) nin0))
  have F248 := F220.keep Kad (ninS (Ne.symm ne_a1_bk) (ninS (Ne.symm ne_ed_bk) nin0))
  have F249 := F221.keep Kad (ninS (Ne.symm ne_a1_nx) (ninS (Ne.symm ne_ed_nx) nin0))
  refine o_blk (pc' := 83) (st' := []) (ls' := #[.val (.ref r), .val (.int (1 : Int32)), .val (.ref a97), .val (.int (1 : Int32))]) b1_82_83 rfl ?_
  exact o_retV d1_83 (by decide) (by decide) rfl ⟨rfl, a139, a1, ed, a61, bk, nx, ps, ⟨_, _, _, _, _, _, _, _, ⟨F223, F224, F225, F226, F227, F228, F229, F230⟩, ⟨F241, F242, F243, F244, F245, F246⟩, Lad, Aad, F238, F248, F249, F247, List.length_replicate, List.length_replicate, List.length_replicate, fun i hi => Or.inl (own_rep 16 (-1) i hi), fun t ht => absurd ht (Nat.not_lt_zero t)⟩, ⟨(List.Pairwise.cons (allS ne140 (allS ne2 (allS ne_r_ed (allS ne62 (allS ne_r_bk (allS ne_r_nx (allS ne_r_ps all0))))))) (List.Pairwise.cons (allS (Ne.symm ne141) (allS (Ne.symm ne142) (allS (Ne.symm ne143) (allS ne_a139_bk (allS ne_a139_nx (allS ne_a139_ps all0)))))) (List.Pairwise.cons (allS ne_a1_ed (allS ne63 (allS ne_a1_bk (allS ne_a1_nx (allS ne_a1_ps all0))))) (List.Pairwise.cons (allS ne64 (allS ne_ed_bk (allS ne_ed_nx (allS ne_ed_ps all0)))) (List.Pairwise.cons (allS ne_a61_bk (allS ne_a61_nx (allS ne_a61_ps all0))) (List.Pairwise.cons (allS dix.2.2 (allS (Ne.symm dix.1) all0)) (List.Pairwise.cons (allS (Ne.symm dix.2.1) all0) (List.Pairwise.cons all0 List.Pairwise.nil)))))))), (allS N_r (allS na139 (allS na1 (allS ned (allS na61 (allS zix.2.1 (allS zix.2.2 (allS zix.1 all0))))))))⟩, (allS ol145 (allS ol3 (allS oled (allS ol65 (allS ol_bk (allS ol_nx (allS ol_ps all0))))))), F231⟩
set_option maxRecDepth 65536 in
set_option maxHeartbeats 40000000 in
theorem rm_hk (l : Launch) (Z : State) (a0 : Array Value) (hw : ∀ d ∈ tables_1, d.before a0 Z = true)  (h0 : Heap) (hE0 : Ext Z.heap h0) (ka : Addr) (kk : ClassId) (x : Int32) (A_ka : OArr Z h0 ka kk .int ([x].map Value.int)) (L_ka : [x].length = 1) :
    OCtr l Z (⟨"com/example/mild_horn/mildhorn/datalog/Relation", "hashKey", "([I)I"⟩ : MethodName) prog_24_method_13_code 6 (some .int) ({ frames := 0, cells := 0, slots := 0, locals := 0 } : Room) #[(.ref ka)] h0 (fun v h => ∃ z : Int32, v = some (.int z) ∧ h0 = h) := by
  refine o_body (ls0 := #[.val (.ref ka), .unset, .unset, .unset, .unset, .unset]) (plainFor_of_name pn_5) hE0 (fun m => by first | (simp [entryFrame, mkF, argsToLocals, Value.category]; done) | rfl) ?_
  intro pG eG sG mG bG meG cG
  refine o_blk (pc' := 2) (st' := []) (ls' := #[.val (.ref ka), .val (.int (1 : Int32)), .unset, .unset, .unset, .unset]) b18_0_2 rfl ?_
  refine o_blk (pc' := 4) (st' := []) (ls' := #[.val (.ref ka), .val (.int (1 : Int32)), .val (.ref ka), .unset, .unset, .unset]) b18_2_4 rfl ?_
  refine o_blk (pc' := 5) (st' := [(.ref ka)]) (ls' := #[.val (.ref ka), .val (.int (1 : Int32)), .val (.ref ka), .unset, .unset, .unset]) b18_4_5 rfl ?_
  refine o_len (pc' := 6) A_ka d18_5 rfl ?_
  rw [List.length_map, L_ka]
  refine o_blk (pc' := 7) (st' := []) (ls' := #[.val (.ref ka), .val (.int (1 : Int32)), .val (.ref ka), .val (.int (1 : Int32)), .unset, .unset]) b18_6_7 rfl ?_
  refine o_blk (pc' := 10) (st' := []) (ls' := #[.val (.ref ka), .val (.int (1 : Int32)), .val (.ref ka), .val (.int (1 : Int32)), .val (.int (0 : Int32)), .unset]) b18_7_10 rfl ?_
  refine o_blk (pc' := 13) (st' := [(.int (1 : Int32)), (.int (0 : Int32))]) (ls' := #[.val (.ref ka), .val (.int (1 : Int32)), .val (.ref ka), .val (.int (1 : Int32)), .val (.int (0 : Int32)), .unset]) b18_10_13 rfl ?_
  refine o_icN (pc' := 16) d18_13 rfl (by decide : (0 : Int32) < (1 : Int32)) ?_
  refine o_blk (pc' := 19) (st' := [(.int (0 : Int32)), (.ref ka)]) (ls' := #[.val (.ref ka), .val (.int (1 : Int32)), .val (.ref ka), .val (.int (1 : Int32)), .val (.int (0 : Int32)), .unset]) b18_16_19 rfl ?_
  refine o_iald (i := 0) (v := (.int ([x].getD 0 0))) (pc' := 20) A_ka rfl (own_getI (by rw [L_ka]; omega)) d18_19 rfl ?_
  refine o_blk (pc' := 22) (st' := []) (ls' := #[.val (.ref ka), .val (.int (1 : Int32)), .val (.ref ka), .val (.int (1 : Int32)), .val (.int (0 : Int32)), .val (.int ([x].getD 0 0))]) b18_20_22 rfl ?_
  refine o_blk (pc' := 23) (st' := [(.int (1 : Int32))]) (ls' := #[.val (.ref ka), .val (.int (1 : Int32)), .val (.ref ka), .val (.int (1 : Int32)), .val (.int (0 : Int32)), .val (.int ([x].getD 0 0))]) b18_22_23 rfl ?_
  refine o_ldc (pc' := 25) (v := -1640531535) (own_word hw 138 rfl) d18_23 rfl ?_
  refine o_blk (pc' := 30) (st' := []) (ls' := #[.val (.ref ka), .val (.int ((-1640531535 : Int32) + ([x].getD 0 0))), .val (.ref ka), .val (.int (1 : Int32)), .val (.int (0 : Int32)), .val (.int ([x].getD 0 0))]) b18_25_30 rfl ?_
  refine o_blk (pc' := 33) (st' := []) (ls' := #[.val (.ref ka), .val (.int ((-1640531535 : Int32) + ([x].getD 0 0))), .val (.ref ka), .val (.int (1 : Int32)), .val (.int (1 : Int32)), .val (.int ([x].getD 0 0))]) b18_30_33 rfl ?_
  refine o_goto (pc' := 10) d18_33 (by decide) (by decide) ?_
  refine o_blk (pc' := 13) (st' := [(.int (1 : Int32)), (.int (1 : Int32))]) (ls' := #[.val (.ref ka), .val (.int ((-1640531535 : Int32) + ([x].getD 0 0))), .val (.ref ka), .val (.int (1 : Int32)), .val (.int (1 : Int32)), .val (.int ([x].getD 0 0))]) b18_10_13 rfl ?_
  refine o_icY (pc' := 36) d18_13 (by decide) (by decide) (by decide : ¬ (1 : Int32) < (1 : Int32)) ?_
  refine o_blk (pc' := 37) (st' := [(.int ((-1640531535 : Int32) + ([x].getD 0 0)))]) (ls' := #[.val (.ref ka), .val (.int ((-1640531535 : Int32) + ([x].getD 0 0))), .val (.ref ka), .val (.int (1 : Int32)), .val (.int (1 : Int32)), .val (.int ([x].getD 0 0))]) b18_36_37 rfl ?_
  exact o_retI d18_37 (by decide) (by decide) rfl ⟨_, rfl, rfl⟩
set_option maxRecDepth 65536 in
set_option maxHeartbeats 40000000 in
theorem rm_bu (l : Launch) (Z : State) (a0 : Array Value) (hw : ∀ d ∈ tables_1, d.before a0 Z = true) (p1 : Int32) (h0 : Heap) (hE0 : Ext Z.heap h0)  :
    OCtr l Z (⟨"com/example/mild_horn/mildhorn/datalog/Relation", "bucket", "(II)I"⟩ : MethodName) prog_24_method_14_code 2 (some .int) ({ frames := 0, cells := 0, slots := 0, locals := 0 } : Room) #[(.int p1), (.int (16 : Int32))] h0 (fun v h => ∃ i : Nat, i < 16 ∧ v = some (.int (Int32.ofNat i)) ∧ h0 = h) := by
  refine o_body (ls0 := #[.val (.int p1), .val (.int (16 : Int32))]) (plainFor_of_name pn_5) hE0 (fun m => by first | (simp [entryFrame, mkF, argsToLocals, Value.category]; done) | rfl) ?_
  intro pG eG sG mG bG meG cG
  refine o_blk (pc' := 10) (st' := [(.int ((p1 ^^^ (XT.ushr p1 (16 : Int32))) &&& (15 : Int32)))]) (ls' := #[.val (.int p1), .val (.int (16 : Int32))]) b19_0_10 rfl ?_
  obtain ⟨bi, hbi, hbe⟩ := own_mask (p1 ^^^ (XT.ushr p1 (16 : Int32))) (k := 4) (q := 15) (by decide) (by decide)
  rw [hbe]
  exact o_retI d19_10 (by decide) (by decide) rfl ⟨bi, hbi, rfl, rfl⟩
set_option maxRecDepth 65536 in
set_option maxHeartbeats 40000000 in
theorem rm_va (l : Launch) (Z : State) (a0 : Array Value) (hw : ∀ d ∈ tables_1, d.before a0 Z = true)  (h0 : Heap) (hE0 : Ext Z.heap h0) (r vals : Addr) (kv : ClassId) (vl : List Int32) (t : Nat) (ht : t < 16) (F_r_arity : Fld Z h0 r "com/example/mild_horn/mildhorn/datalog/Relation" "arity" "I" (.int (1 : Int32))) (F_r_values : Fld Z h0 r "com/example/mild_horn/mildhorn/datalog/Relation" "values" "[I" (.ref vals)) (A_vals : OArr Z h0 vals kv .int (vl.map Value.int)) (L_vals : vl.length = 16) :
    OCtr l Z (⟨"com/example/mild_horn/mildhorn/datalog/Relation", "value", "(II)I"⟩ : MethodName) prog_24_method_7_code 3 (some .int) ({ frames := 0, cells := 0, slots := 0, locals := 0 } : Room) #[(.ref r), (.int (Int32.ofNat t)), (.int (0 : Int32))] h0 (fun v h => ∃ z : Int32, v = some (.int z) ∧ h0 = h) := by
  refine o_body (ls0 := #[.val (.ref r), .val (.int (Int32.ofNat t)), .val (.int (0 : Int32))]) (plainFor_of_name pn_5) hE0 (fun m => by first | (simp [entryFrame, mkF, argsToLocals, Value.category]; done) | rfl) ?_
  intro pG eG sG mG bG meG cG
  refine o_blk (pc' := 1) (st' := [(.ref r)]) (ls' := #[.val (.ref r), .val (.int (Int32.ofNat t)), .val (.int (0 : Int32))]) b27_0_1 rfl ?_
  refine o_getF (host := "") (pc' := 4) (v := (.ref vals)) (Or.inl (own_word hw 43 rfl)) F_r_values d27_1 rfl ?_
  refine o_blk (pc' := 6) (st' := [(.ref r), (.int (Int32.ofNat t)), (.ref vals)]) (ls' := #[.val (.ref r), .val (.int (Int32.ofNat t)), .val (.int (0 : Int32))]) b27_4_6 rfl ?_
  refine o_getF (host := "") (pc' := 9) (v := (.int (1 : Int32))) (Or.inl (own_word hw 37 rfl)) F_r_arity d27_6 rfl ?_
  refine o_blk (pc' := 12) (st' := [(.int (((Int32.ofNat t) * (1 : Int32)) + (0 : Int32))), (.ref vals)]) (ls' := #[.val (.ref r), .val (.int (Int32.ofNat t)), .val (.int (0 : Int32))]) b27_9_12 rfl ?_
  rw [own_t10]
  refine o_iald (i := t) (v := (.int (vl.getD t 0))) (pc' := 13) A_vals rfl (own_getI (by rw [L_vals]; omega)) d27_12 rfl ?_
  exact o_retI d27_13 (by decide) (by decide) rfl ⟨_, rfl, rfl⟩
set_option maxRecDepth 65536 in
set_option maxHeartbeats 40000000 in
theorem rm_ma (l : Launch) (Z : State) (a0 : Array Value) (hw : ∀ d ∈ tables_1, d.before a0 Z = true)  (h0 : Heap) (hE0 : Ext Z.heap h0) (r ix vals ps : Addr) (kv kp : ClassId) (vl : List Int32) (ka : Addr) (kk : ClassId) (x : Int32) (t : Nat) (ht : t < 16) (E_r : Exa Z h0 r "com/example/mild_horn/mildhorn/datalog/Relation") (F_r_arity : Fld Z h0 r "com/example/mild_horn/mildhorn/datalog/Relation" "arity" "I" (.int (1 : Int32))) (F_r_values : Fld Z h0 r "com/example/mild_horn/mildhorn/datalog/Relation" "values" "[I" (.ref vals)) (A_vals : OArr Z h0 vals kv .int (vl.map Value.int)) (L_vals : vl.length = 16) (E_ix : Exa Z h0 ix "com/example/mild_horn/mildhorn/datalog/Relation$Index") (F_ix_this0 : Fld Z h0 ix "com/example/mild_horn/mildhorn/datalog/Relation$Index" "this$0" "Lcom/example/mild_horn/mildhorn/datalog/Relation;" (.ref r)) (F_ix_positions : Fld Z h0 ix "com/example/mild_horn/mildhorn/datalog/Relation$Index" "positions" "[I" (.ref ps)) (A_ps : OArr Z h0 ps kp .int ([(0 : Int32)].map Value.int)) (L_ps : [(0 : Int32)].length = 1) (A_ka : OArr Z h0 ka kk .int ([x].map Value.int)) (L_ka : [x].length = 1) :
    OCtr l Z (⟨"com/example/mild_horn/mildhorn/datalog/Relation$Index", "matches", "(I[I)Z"⟩ : MethodName) prog_25_method_7_code 4 (some .boolean) ({ frames := 1, cells := 0, slots := 0, locals := 14 } : Room) #[(.ref ix), (.int (Int32.ofNat t)), (.ref ka)] h0 (fun v h => ∃ z : Int32, (z = 0 ∨ z = 1) ∧ v = some (.int z) ∧ h0 = h) := by
  refine o_body (ls0 := #[.val (.ref ix), .val (.int (Int32.ofNat t)), .val (.ref ka), .unset]) (plainFor_of_name pn_4) hE0 (fun m => by first | (simp [entryFrame, mkF, argsToLocals, Value.category]; done) | rfl) ?_
  intro pG eG sG mG bG meG cG
  refine o_blk (pc' := 2) (st' := []) (ls' := #[.val (.ref ix), .val (.int (Int32.ofNat t)), .val (.ref ka), .val (.int (0 : Int32))]) b28_0_2 rfl ?_
  refine o_blk (pc' := 4) (st' := [(.ref ix), (.int (0 : Int32))]) (ls' := #[.val (.ref ix), .val (.int (Int32.ofNat t)), .val (.ref ka), .val (.int (0 : Int32))]) b28_2_4 rfl ?_
  refine o_getF (host := "") (pc' := 7) (v := (.ref ps)) (Or.inl (own_word hw 67 rfl)) F_ix_positions d28_4 rfl ?_
  refine o_len (pc' := 8) A_ps d28_7 rfl ?_
  rw [List.length_map, L_ps]
  refine o_icN (pc' := 11) d28_8 rfl (by decide : (0 : Int32) < (1 : Int32)) ?_
  refine o_blk (pc' := 12) (st' := [(.ref ix)]) (ls' := #[.val (.ref ix), .val (.int (Int32.ofNat t)), .val (.ref ka), .val (.int (0 : Int32))]) b28_11_12 rfl ?_
  refine o_getF (host := "") (pc' := 15) (v := (.ref r)) (Or.inl (own_word hw 51 rfl)) F_ix_this0 d28_12 rfl ?_
  refine o_blk (pc' := 17) (st' := [(.ref ix), (.int (Int32.ofNat t)), (.ref r)]) (ls' := #[.val (.ref ix), .val (.int (Int32.ofNat t)), .val (.ref ka), .val (.int (0 : Int32))]) b28_15_17 rfl ?_
  refine o_getF (host := "") (pc' := 20) (v := (.ref ps)) (Or.inl (own_word hw 67 rfl)) F_ix_positions d28_17 rfl ?_
  refine o_blk (pc' := 21) (st' := [(.int (0 : Int32)), (.ref ps), (.int (Int32.ofNat t)), (.ref r)]) (ls' := #[.val (.ref ix), .val (.int (Int32.ofNat t)), .val (.ref ka), .val (.int (0 : Int32))]) b28_20_21 rfl ?_
  refine o_iald (i := 0) (v := (.int ([(0 : Int32)].getD 0 0))) (pc' := 22) A_ps rfl (own_getI (by rw [L_ps]; omega)) d28_21 rfl ?_
  rw [show ([(0 : Int32)].getD 0 0) = (0 : Int32) from rfl]
  refine o_callV (W := 0) (argsL := [(.int (Int32.ofNat t)), (.int (0 : Int32))]) (rest := []) (pc' := 25) (own_word hw 207 rfl) (own_word hw 208 rfl) (own_word hw 210 rfl) (own_word hw 210 rfl) (own_word hw 209 rfl) (own_word hw 211 rfl) (own_word hw 3 rfl) (by decide) E_r (fun hE => rm_va l Z a0 hw h0 hE r vals kv vl t ht F_r_arity F_r_values A_vals L_vals) d28_22 pd_4 rfl rfl rfl (Nat.le_of_eq rfl) (by decide) (by decide) (by decide) (by decide) rfl ?_
  rintro _ _ ⟨z1, rfl, rfl⟩ hs2
  refine o_blk (pc' := 27) (st' := [(.int (0 : Int32)), (.ref ka), (.int z1)]) (ls' := #[.val (.ref ix), .val (.int (Int32.ofNat t)), .val (.ref ka), .val (.int (0 : Int32))]) b28_25_27 rfl ?_
  refine o_iald (i := 0) (v := (.int ([x].getD 0 0))) (pc' := 28) A_ka rfl (own_getI (by rw [L_ka]; omega)) d28_27 rfl ?_
  refine o_ic (pc' := 33) (pc'' := 31) d28_28 (by decide) (by decide) rfl (fun (hc28_3 : z1 = ([x].getD 0 0)) => ?_) (fun (hc28_3 : ¬ z1 = ([x].getD 0 0)) => ?_)
  ·
    refine o_blk (pc' := 36) (st' := []) (ls' := #[.val (.ref ix), .val (.int (Int32.ofNat t)), .val (.ref ka), .val (.int (1 : Int32))]) b28_33_36 rfl ?_
    refine o_goto (pc' := 2) d28_36 (by decide) (by decide) ?_
    refine o_blk (pc' := 4) (st' := [(.ref ix), (.int (1 : Int32))]) (ls' := #[.val (.ref ix), .val (.int (Int32.ofNat t)), .val (.ref ka), .val (.int (1 : Int32))]) b28_2_4 rfl ?_
    refine o_getF (host := "") (pc' := 7) (v := (.ref ps)) (Or.inl (own_word hw 67 rfl)) F_ix_positions d28_4 rfl ?_
    refine o_len (pc' := 8) A_ps d28_7 rfl ?_
    rw [List.length_map, L_ps]
    refine o_icY (pc' := 39) d28_8 (by decide) (by decide) (by decide : ¬ (1 : Int32) < (1 : Int32)) ?_
    refine o_blk (pc' := 40) (st' := [(.int (1 : Int32))]) (ls' := #[.val (.ref ix), .val (.int (Int32.ofNat t)), .val (.ref ka), .val (.int (1 : Int32))]) b28_39_40 rfl ?_
    exact o_retZ (w := 0) d28_40 (by decide) (by decide) rfl (by decide) ⟨_, by decide, rfl, rfl⟩
  ·
    refine o_blk (pc' := 32) (st' := [(.int (0 : Int32))]) (ls' := #[.val (.ref ix), .val (.int (Int32.ofNat t)), .val (.ref ka), .val (.int (0 : Int32))]) b28_31_32 rfl ?_
    exact o_retZ (w := 0) d28_32 (by decide) (by decide) rfl (by decide) ⟨_, by decide, rfl, rfl⟩
set_option maxRecDepth 65536 in
set_option maxHeartbeats 40000000 in
theorem rm_ht (l : Launch) (Z : State) (a0 : Array Value) (hw : ∀ d ∈ tables_1, d.before a0 Z = true)  (h0 : Heap) (hE0 : Ext Z.heap h0) (r ix vals ps : Addr) (kv kp : ClassId) (vl : List Int32) (t : Nat) (ht : t < 16) (E_r : Exa Z h0 r "com/example/mild_horn/mildhorn/datalog/Relation") (F_r_arity : Fld Z h0 r "com/example/mild_horn/mildhorn/datalog/Relation" "arity" "I" (.int (1 : Int32))) (F_r_values : Fld Z h0 r "com/example/mild_horn/mildhorn/datalog/Relation" "values" "[I" (.ref vals)) (A_vals : OArr Z h0 vals kv .int (vl.map Value.int)) (L_vals : vl.length = 16) (E_ix : Exa Z h0 ix "com/example/mild_horn/mildhorn/datalog/Relation$Index") (F_ix_this0 : Fld Z h0 ix "com/example/mild_horn/mildhorn/datalog/Relation$Index" "this$0" "Lcom/example/mild_horn/mildhorn/datalog/Relation;" (.ref r)) (F_ix_positions : Fld Z h0 ix "com/example/mild_horn/mildhorn/datalog/Relation$Index" "positions" "[I" (.ref ps)) (A_ps : OArr Z h0 ps kp .int ([(0 : Int32)].map Value.int)) (L_ps : [(0 : Int32)].length = 1) :
    OCtr l Z (⟨"com/example/mild_horn/mildhorn/datalog/Relation$Index", "hashTuple", "(I)I"⟩ : MethodName) prog_25_method_6_code 7 (some .int) ({ frames := 1, cells := 0, slots := 0, locals := 15 } : Room) #[(.ref ix), (.int (Int32.ofNat t))] h0 (fun v h => ∃ z : Int32, v = some (.int z) ∧ h0 = h) := by
  refine o_body (ls0 := #[.val (.ref ix), .val (.int (Int32.ofNat t)), .unset, .unset, .unset, .unset, .unset]) (plainFor_of_name pn_4) hE0 (fun m => by first | (simp [entryFrame, mkF, argsToLocals, Value.category]; done) | rfl) ?_
  intro pG eG sG mG bG meG cG
  refine o_blk (pc' := 2) (st' := []) (ls' := #[.val (.ref ix), .val (.int (Int32.ofNat t)), .val (.int (1 : Int32)), .unset, .unset, .unset, .unset]) b26_0_2 rfl ?_
  refine o_blk (pc' := 3) (st' := [(.ref ix)]) (ls' := #[.val (.ref ix), .val (.int (Int32.ofNat t)), .val (.int (1 : Int32)), .unset, .unset, .unset, .unset]) b26_2_3 rfl ?_
  refine o_getF (host := "") (pc' := 6) (v := (.ref ps)) (Or.inl (own_word hw 67 rfl)) F_ix_positions d26_3 rfl ?_
  refine o_blk (pc' := 7) (st' := []) (ls' := #[.val (.ref ix), .val (.int (Int32.ofNat t)), .val (.int (1 : Int32)), .val (.ref ps), .unset, .unset, .unset]) b26_6_7 rfl ?_
  refine o_blk (pc' := 8) (st' := [(.ref ps)]) (ls' := #[.val (.ref ix), .val (.int (Int32.ofNat t)), .val (.int (1 : Int32)), .val (.ref ps), .unset, .unset, .unset]) b26_7_8 rfl ?_
  refine o_len (pc' := 9) A_ps d26_8 rfl ?_
  rw [List.length_map, L_ps]
  refine o_blk (pc' := 11) (st' := []) (ls' := #[.val (.ref ix), .val (.int (Int32.ofNat t)), .val (.int (1 : Int32)), .val (.ref ps), .val (.int (1 : Int32)), .unset, .unset]) b26_9_11 rfl ?_
  refine o_blk (pc' := 14) (st' := []) (ls' := #[.val (.ref ix), .val (.int (Int32.ofNat t)), .val (.int (1 : Int32)), .val (.ref ps), .val (.int (1 : Int32)), .val (.int (0 : Int32)), .unset]) b26_11_14 rfl ?_
  refine o_blk (pc' := 18) (st' := [(.int (1 : Int32)), (.int (0 : Int32))]) (ls' := #[.val (.ref ix), .val (.int (Int32.ofNat t)), .val (.int (1 : Int32)), .val (.ref ps), .val (.int (1 : Int32)), .val (.int (0 : Int32)), .unset]) b26_14_18 rfl ?_
  refine o_icN (pc' := 21) d26_18 rfl (by decide : (0 : Int32) < (1 : Int32)) ?_
  refine o_blk (pc' := 24) (st' := [(.int (0 : Int32)), (.ref ps)]) (ls' := #[.val (.ref ix), .val (.int (Int32.ofNat t)), .val (.int (1 : Int32)), .val (.ref ps), .val (.int (1 : Int32)), .val (.int (0 : Int32)), .unset]) b26_21_24 rfl ?_
  refine o_iald (i := 0) (v := (.int ([(0 : Int32)].getD 0 0))) (pc' := 25) A_ps rfl (own_getI (by rw [L_ps]; omega)) d26_24 rfl ?_
  rw [show ([(0 : Int32)].getD 0 0) = (0 : Int32) from rfl]
  refine o_blk (pc' := 27) (st' := []) (ls' := #[.val (.ref ix), .val (.int (Int32.ofNat t)), .val (.int (1 : Int32)), .val (.ref ps), .val (.int (1 : Int32)), .val (.int (0 : Int32)), .val (.int (0 : Int32))]) b26_25_27 rfl ?_
  refine o_blk (pc' := 28) (st' := [(.int (1 : Int32))]) (ls' := #[.val (.ref ix), .val (.int (Int32.ofNat t)), .val (.int (1 : Int32)), .val (.ref ps), .val (.int (1 : Int32)), .val (.int (0 : Int32)), .val (.int (0 : Int32))]) b26_27_28 rfl ?_
  refine o_ldc (pc' := 30) (v := -1640531535) (own_word hw 206 rfl) d26_28 rfl ?_
  refine o_blk (pc' := 32) (st' := [(.ref ix), (.int (-1640531535 : Int32))]) (ls' := #[.val (.ref ix), .val (.int (Int32.ofNat t)), .val (.int (1 : Int32)), .val (.ref ps), .val (.int (1 : Int32)), .val (.int (0 : Int32)), .val (.int (0 : Int32))]) b26_30_32 rfl ?_
  refine o_getF (host := "") (pc' := 35) (v := (.ref r)) (Or.inl (own_word hw 51 rfl)) F_ix_this0 d26_32 rfl ?_
  refine o_blk (pc' := 38) (st' := [(.int (0 : Int32)), (.int (Int32.ofNat t)), (.ref r), (.int (-1640531535 : Int32))]) (ls' := #[.val (.ref ix), .val (.int (Int32.ofNat t)), .val (.int (1 : Int32)), .val (.ref ps), .val (.int (1 : Int32)), .val (.int (0 : Int32)), .val (.int (0 : Int32))]) b26_35_38 rfl ?_
  refine o_callV (W := 1) (argsL := [(.int (Int32.ofNat t)), (.int (0 : Int32))]) (rest := [(.int (-1640531535 : Int32))]) (pc' := 41) (own_word hw 207 rfl) (own_word hw 208 rfl) (own_word hw 210 rfl) (own_word hw 210 rfl) (own_word hw 209 rfl) (own_word hw 211 rfl) (own_word hw 3 rfl) (by decide) E_r (fun hE => rm_va l Z a0 hw h0 hE r vals kv vl t ht F_r_arity F_r_values A_vals L_vals) d26_38 pd_4 rfl rfl rfl (Nat.le_of_eq rfl) (by decide) (by decide) (by decide) (by decide) rfl ?_
  rintro _ _ ⟨z1, rfl, rfl⟩ hs2
  refine o_blk (pc' := 43) (st' := []) (ls' := #[.val (.ref ix), .val (.int (Int32.ofNat t)), .val (.int ((-1640531535 : Int32) + z1)), .val (.ref ps), .val (.int (1 : Int32)), .val (.int (0 : Int32)), .val (.int (0 : Int32))]) b26_41_43 rfl ?_
  refine o_blk (pc' := 46) (st' := []) (ls' := #[.val (.ref ix), .val (.int (Int32.ofNat t)), .val (.int ((-1640531535 : Int32) + z1)), .val (.ref ps), .val (.int (1 : Int32)), .val (.int (1 : Int32)), .val (.int (0 : Int32))]) b26_43_46 rfl ?_
  refine o_goto (pc' := 14) d26_46 (by decide) (by decide) ?_
  refine o_blk (pc' := 18) (st' := [(.int (1 : Int32)), (.int (1 : Int32))]) (ls' := #[.val (.ref ix), .val (.int (Int32.ofNat t)), .val (.int ((-1640531535 : Int32) + z1)), .val (.ref ps), .val (.int (1 : Int32)), .val (.int (1 : Int32)), .val (.int (0 : Int32))]) b26_14_18 rfl ?_
  refine o_icY (pc' := 49) d26_18 (by decide) (by decide) (by decide : ¬ (1 : Int32) < (1 : Int32)) ?_
  refine o_blk (pc' := 50) (st' := [(.int ((-1640531535 : Int32) + z1))]) (ls' := #[.val (.ref ix), .val (.int (Int32.ofNat t)), .val (.int ((-1640531535 : Int32) + z1)), .val (.ref ps), .val (.int (1 : Int32)), .val (.int (1 : Int32)), .val (.int (0 : Int32))]) b26_49_50 rfl ?_
  exact o_retI d26_50 (by decide) (by decide) rfl ⟨_, rfl, rfl⟩
set_option maxRecDepth 65536 in
set_option maxHeartbeats 40000000 in
theorem rm_fi (l : Launch) (Z : State) (a0 : Array Value) (hw : ∀ d ∈ tables_1, d.before a0 Z = true)  (h0 : Heap) (hE0 : Ext Z.heap h0) (r ix vals ps : Addr) (kv kp : ClassId) (vl : List Int32) (bk nx ka : Addr) (kb kn kk : ClassId) (bl nl : List Int32) (x : Int32) (n : Nat) (hn16 : n < 16) (Hb : ∀ i < 16, OB n (bl.getD i 0)) (Hn : ∀ t < n, OB t (nl.getD t 0)) (E_r : Exa Z h0 r "com/example/mild_horn/mildhorn/datalog/Relation") (F_r_arity : Fld Z h0 r "com/example/mild_horn/mildhorn/datalog/Relation" "arity" "I" (.int (1 : Int32))) (F_r_values : Fld Z h0 r "com/example/mild_horn/mildhorn/datalog/Relation" "values" "[I" (.ref vals)) (A_vals : OArr Z h0 vals kv .int (vl.map Value.int)) (L_vals : vl.length = 16) (E_ix : Exa Z h0 ix "com/example/mild_horn/mildhorn/datalog/Relation$Index") (F_ix_this0 : Fld Z h0 ix "com/example/mild_horn/mildhorn/datalog/Relation$Index" "this$0" "Lcom/example/mild_horn/mildhorn/datalog/Relation;" (.ref r)) (F_ix_positions : Fld Z h0 ix "com/example/mild_horn/mildhorn/datalog/Relation$Index" "positions" "[I" (.ref ps)) (A_ps : OArr Z h0 ps kp .int ([(0 : Int32)].map Value.int)) (L_ps : [(0 : Int32)].length = 1) (F_ix_buckets : Fld Z h0 ix "com/example/mild_horn/mildhorn/datalog/Relation$Index" "buckets" "[I" (.ref bk)) (F_ix_next : Fld Z h0 ix "com/example/mild_horn/mildhorn/datalog/Relation$Index" "next" "[I" (.ref nx)) (A_bk : OArr Z h0 bk kb .int (bl.map Value.int)) (L_bk : bl.length = 16) (A_nx : OArr Z h0 nx kn .int (nl.map Value.int)) (L_nx : nl.length = 16) (A_ka : OArr Z h0 ka kk .int ([x].map Value.int)) (L_ka : [x].length = 1) :
    OCtr l Z (⟨"com/example/mild_horn/mildhorn/datalog/Relation", "find", "(Lcom/example/mild_horn/mildhorn/datalog/Relation$Index;[II)I"⟩ : MethodName) prog_24_method_11_code 5 (some .int) ({ frames := 2, cells := 0, slots := 0, locals := 29 } : Room) #[(.ref r), (.ref ix), (.ref ka), (.int (Int32.ofNat n))] h0 (fun v h => ∃ z : Int32, v = some (.int z) ∧ h0 = h) := by
  refine o_body (ls0 := #[.val (.ref r), .val (.ref ix), .val (.ref ka), .val (.int (Int32.ofNat n)), .unset]) (plainFor_of_name pn_5) hE0 (fun m => by first | (simp [entryFrame, mkF, argsToLocals, Value.category]; done) | rfl) ?_
  intro pG eG sG mG bG meG cG
  refine o_blk (pc' := 1) (st' := [(.ref ix)]) (ls' := #[.val (.ref r), .val (.ref ix), .val (.ref ka), .val (.int (Int32.ofNat n)), .unset]) b17_0_1 rfl ?_
  refine o_getFR (pc' := 4) (v := (.ref bk)) (own_word hw 134 rfl) F_ix_buckets d17_1 rfl ?_
  refine o_blk (pc' := 5) (st' := [(.ref ka), (.ref bk)]) (ls' := #[.val (.ref r), .val (.ref ix), .val (.ref ka), .val (.int (Int32.ofNat n)), .unset]) b17_4_5 rfl ?_
  refine o_callS (W := 1) (argsL := [(.ref ka)]) (rest := [(.ref bk)]) (pc' := 8) (own_word hw 135 rfl) (own_word hw 136 rfl) (own_word hw 3 rfl) (own_word hw 137 rfl) (by decide) (fun hE => rm_hk l Z a0 hw h0 hE ka kk x A_ka L_ka) d17_5 pd_7 rfl rfl rfl (Nat.le_of_eq rfl) (by decide) (by decide) (by decide) (by decide) rfl ?_
  rintro _ _ ⟨z1, rfl, rfl⟩ hs2
  refine o_blk (pc' := 9) (st' := [(.ref ix), (.int z1), (.ref bk)]) (ls' := #[.val (.ref r), .val (.ref ix), .val (.ref ka), .val (.int (Int32.ofNat n)), .unset]) b17_8_9 rfl ?_
  refine o_getFR (pc' := 12) (v := (.ref bk)) (own_word hw 134 rfl) F_ix_buckets d17_9 rfl ?_
  refine o_len (pc' := 13) A_bk d17_12 rfl ?_
  rw [List.length_map, L_bk]
  refine o_callS (W := 1) (argsL := [(.int z1), (.int (16 : Int32))]) (rest := [(.ref bk)]) (pc' := 16) (own_word hw 139 rfl) (own_word hw 140 rfl) (own_word hw 3 rfl) (own_word hw 141 rfl) (by decide) (fun hE => rm_bu l Z a0 hw z1 h0 hE) d17_13 pd_4 rfl rfl rfl (Nat.le_of_eq rfl) (by decide) (by decide) (by decide) (by decide) rfl ?_
  rintro _ _ ⟨i3, hi3, rfl, rfl⟩ hs4
  refine o_iald (i := i3) (v := (.int (bl.getD i3 0))) (pc' := 17) A_bk rfl (own_getI (by rw [L_bk]; omega)) d17_16 rfl ?_
  refine o_blk (pc' := 19) (st' := []) (ls' := #[.val (.ref r), .val (.ref ix), .val (.ref ka), .val (.int (Int32.ofNat n)), .val (.int (bl.getD i3 0))]) b17_17_19 rfl ?_
  have L19 : ∀ (k : Nat), k ≤ n → ∀ x4 : Int32, OB k x4 → OG pG l eG ({ frames := 2, cells := 0, slots := 0, locals := 29 } : Room) sG mG #[(.ref r), (.ref ix), (.ref ka), (.int (Int32.ofNat n))] bG meG cG Z (⟨"com/example/mild_horn/mildhorn/datalog/Relation", "find", "(Lcom/example/mild_horn/mildhorn/datalog/Relation$Index;[II)I"⟩ : MethodName).cls (⟨"com/example/mild_horn/mildhorn/datalog/Relation", "find", "(Lcom/example/mild_horn/mildhorn/datalog/Relation$Index;[II)I"⟩ : MethodName).name prog_24_method_11_code 5 (some .int) (fun v h => ∃ z : Int32, v = some (.int z) ∧ h0 = h) ({ frames := 2, cells := 0, slots := 0, locals := 29 } : Room).cells ({ frames := 2, cells := 0, slots := 0, locals := 29 } : Room).slots h0 0 0 (mkF mG 19 #[.val (.ref r), .val (.ref ix), .val (.ref ka), .val (.int (Int32.ofNat n)), .val (.int x4)] []) := by
    intro k
    induction k using Nat.strongRecOn with
    | ind k ih =>
      intro hk x4 hx4
      rcases hx4 with rfl | ⟨t, ht, rfl⟩
      ·
        refine o_blk (pc' := 22) (st' := [(.int (-1 : Int32)), (.int (-1 : Int32))]) (ls' := #[.val (.ref r), .val (.ref ix), .val (.ref ka), .val (.int (Int32.ofNat n)), .val (.int (-1 : Int32))]) b17_19_22 rfl ?_
        refine o_icY (pc' := 53) d17_22 (by decide) (by decide) (by decide : (-1 : Int32) = (-1 : Int32)) ?_
        refine o_blk (pc' := 55) (st' := [(.int (-1 : Int32))]) (ls' := #[.val (.ref r), .val (.ref ix), .val (.ref ka), .val (.int (Int32.ofNat n)), .val (.int (-1 : Int32))]) b17_53_55 rfl ?_
        exact o_retI d17_55 (by decide) (by decide) rfl ⟨_, rfl, rfl⟩
      ·
        refine o_blk (pc' := 22) (st' := [(.int (-1 : Int32)), (.int (Int32.ofNat t))]) (ls' := #[.val (.ref r), .val (.ref ix), .val (.ref ka), .val (.int (Int32.ofNat n)), .val (.int (Int32.ofNat t))]) b17_19_22 rfl ?_
        refine o_icN (pc' := 25) d17_22 rfl (own_nm1 (by omega) : ¬ (Int32.ofNat t) = (-1 : Int32)) ?_
        refine o_blk (pc' := 28) (st' := [(.int (Int32.ofNat n)), (.int (Int32.ofNat t))]) (ls' := #[.val (.ref r), .val (.ref ix), .val (.ref ka), .val (.int (Int32.ofNat n)), .val (.int (Int32.ofNat t))]) b17_25_28 rfl ?_
        refine o_icN (pc' := 31) d17_28 rfl ((own_ltn (by omega) (by omega)).mpr (by omega) : (Int32.ofNat t) < (Int32.ofNat n)) ?_
        refine o_blk (pc' := 35) (st' := [(.ref ka), (.int (Int32.ofNat t)), (.ref ix)]) (ls' := #[.val (.ref r), .val (.ref ix), .val (.ref ka), .val (.int (Int32.ofNat n)), .val (.int (Int32.ofNat t))]) b17_31_35 rfl ?_
        refine o_callPR (W := 0) (argsL := [(.int (Int32.ofNat t)), (.ref ka)]) (rest := []) (pc' := 38) (own_word hw 213 rfl) (own_word hw 214 rfl) (own_word hw 215 rfl) (own_word hw 46 rfl) (own_word hw 216 rfl) (own_word hw 47 rfl) (by decide) E_ix (fun hE => rm_ma l Z a0 hw h0 hE r ix vals ps kv kp vl ka kk x t (by omega) E_r F_r_arity F_r_values A_vals L_vals E_ix F_ix_this0 F_ix_positions A_ps L_ps A_ka L_ka) d17_35 pd_8 rfl rfl rfl (Nat.le_of_eq rfl) (by decide) (by decide) (by decide) (by decide) rfl ?_
        rintro _ _ ⟨z5, hz5, rfl, rfl⟩ hs6
        refine o_if (pc' := 53) (pc'' := 41) d17_38 (by decide) (by decide) rfl (fun (hc38_7 : ¬ z5 = 0) => ?_) (fun (hc38_7 : z5 = 0) => ?_)
        ·
          refine o_blk (pc' := 55) (st' := [(.int (Int32.ofNat t))]) (ls' := #[.val (.ref r), .val (.ref ix), .val (.ref ka), .val (.int (Int32.ofNat n)), .val (.int (Int32.ofNat t))]) b17_53_55 rfl ?_
          exact o_retI d17_55 (by decide) (by decide) rfl ⟨_, rfl, rfl⟩
        ·
          refine o_blk (pc' := 42) (st' := [(.ref ix)]) (ls' := #[.val (.ref r), .val (.ref ix), .val (.ref ka), .val (.int (Int32.ofNat n)), .val (.int (Int32.ofNat t))]) b17_41_42 rfl ?_
          refine o_getFR (pc' := 45) (v := (.ref nx)) (own_word hw 217 rfl) F_ix_next d17_42 rfl ?_
          refine o_blk (pc' := 47) (st' := [(.int (Int32.ofNat t)), (.ref nx)]) (ls' := #[.val (.ref r), .val (.ref ix), .val (.ref ka), .val (.int (Int32.ofNat n)), .val (.int (Int32.ofNat t))]) b17_45_47 rfl ?_
          refine o_iald (i := t) (v := (.int (nl.getD t 0))) (pc' := 48) A_nx rfl (own_getI (by rw [L_nx]; omega)) d17_47 rfl ?_
          refine o_blk (pc' := 50) (st' := []) (ls' := #[.val (.ref r), .val (.ref ix), .val (.ref ka), .val (.int (Int32.ofNat n)), .val (.int (nl.getD t 0))]) b17_48_50 rfl ?_
          refine o_goto (pc' := 19) d17_50 (by decide) (by decide) ?_
          exact ih t (by omega) (by omega) _ (Hn t (by omega))
  exact L19 n (Nat.le_refl n) _ (Hb i3 (by omega))
set_option maxRecDepth 65536 in
set_option maxHeartbeats 40000000 in
theorem rm_lk (l : Launch) (Z : State) (a0 : Array Value) (hw : ∀ d ∈ tables_1, d.before a0 Z = true)  (h0 : Heap) (hE0 : Ext Z.heap h0) (r ix vals ps : Addr) (kv kp : ClassId) (vl : List Int32) (bk nx : Addr) (kb kn : ClassId) (bl nl : List Int32) (n : Nat) (hn16 : n < 11) (Hb : ∀ i < 16, OB n (bl.getD i 0)) (Hn : ∀ t < n, OB t (nl.getD t 0)) (E_r : Exa Z h0 r "com/example/mild_horn/mildhorn/datalog/Relation") (F_r_arity : Fld Z h0 r "com/example/mild_horn/mildhorn/datalog/Relation" "arity" "I" (.int (1 : Int32))) (F_r_values : Fld Z h0 r "com/example/mild_horn/mildhorn/datalog/Relation" "values" "[I" (.ref vals)) (A_vals : OArr Z h0 vals kv .int (vl.map Value.int)) (L_vals : vl.length = 16) (E_ix : Exa Z h0 ix "com/example/mild_horn/mildhorn/datalog/Relation$Index") (F_ix_this0 : Fld Z h0 ix "com/example/mild_horn/mildhorn/datalog/Relation$Index" "this$0" "Lcom/example/mild_horn/mildhorn/datalog/Relation;" (.ref r)) (F_ix_positions : Fld Z h0 ix "com/example/mild_horn/mildhorn/datalog/Relation$Index" "positions" "[I" (.ref ps)) (A_ps : OArr Z h0 ps kp .int ([(0 : Int32)].map Value.int)) (L_ps : [(0 : Int32)].length = 1) (F_ix_buckets : Fld Z h0 ix "com/example/mild_horn/mildhorn/datalog/Relation$Index" "buckets" "[I" (.ref bk)) (F_ix_next : Fld Z h0 ix "com/example/mild_horn/mildhorn/datalog/Relation$Index" "next" "[I" (.ref nx)) (F_ix_linked : Fld Z h0 ix "com/example/mild_horn/mildhorn/datalog/Relation$Index" "linked" "I" (.int (Int32.ofNat n))) (A_bk : OArr Z h0 bk kb .int (bl.map Value.int)) (L_bk : bl.length = 16) (A_nx : OArr Z h0 nx kn .int (nl.map Value.int)) (L_nx : nl.length = 16) (N_ix : Z.heap.size ≤ ix) (N_bk : Z.heap.size ≤ bk) (N_nx : Z.heap.size ≤ nx) (ne_r_ix : r ≠ ix) (ne_r_vals : r ≠ vals) (ne_r_bk : r ≠ bk) (ne_r_nx : r ≠ nx) (ne_r_ps : r ≠ ps) (ne_ix_vals : ix ≠ vals) (ne_ix_bk : ix ≠ bk) (ne_ix_nx : ix ≠ nx) (ne_ix_ps : ix ≠ ps) (ne_vals_bk : vals ≠ bk) (ne_vals_nx : vals ≠ nx) (ne_vals_ps : vals ≠ ps) (ne_bk_nx : bk ≠ nx) (ne_bk_ps : bk ≠ ps) (ne_nx_ps : nx ≠ ps) :
    OCtr l Z (⟨"com/example/mild_horn/mildhorn/datalog/Relation$Index", "link", "(I)V"⟩ : MethodName) prog_25_method_2_code 3 none ({ frames := 2, cells := 0, slots := 0, locals := 33 } : Room) #[(.ref ix), (.int (Int32.ofNat n))] h0 (fun v h => v = none ∧ ∃ (bl2 nl2 : List Int32), OIdx Z h ix r ps bk nx (Int32.ofNat (n + 1)) ∧ OArr Z h bk kb .int (bl2.map Value.int) ∧ OArr Z h nx kn .int (nl2.map Value.int) ∧ bl2.length = 16 ∧ nl2.length = 16 ∧ (∀ i < 16, OB (n + 1) (bl2.getD i 0)) ∧ (∀ t < n + 1, OB t (nl2.getD t 0)) ∧ Keep h0 h [ix, bk, nx]) := by
  refine o_body (ls0 := #[.val (.ref ix), .val (.int (Int32.ofNat n)), .unset]) (plainFor_of_name pn_4) hE0 (fun m => by first | (simp [entryFrame, mkF, argsToLocals, Value.category]; done) | rfl) ?_
  intro pG eG sG mG bG meG cG
  refine o_blk (pc' := 2) (st' := [(.ref ix), (.int (Int32.ofNat n))]) (ls' := #[.val (.ref ix), .val (.int (Int32.ofNat n)), .unset]) b25_0_2 rfl ?_
  refine o_getF (host := "") (pc' := 5) (v := (.ref nx)) (Or.inl (own_word hw 56 rfl)) F_ix_next d25_2 rfl ?_
  refine o_len (pc' := 6) A_nx d25_5 rfl ?_
  rw [List.length_map, L_nx]
  refine o_icY (pc' := 33) d25_6 (by decide) (by decide) ((own_ltn (i := n) (j := 16) (by omega) (by omega)).mpr (by omega) : (Int32.ofNat n) < (16 : Int32)) ?_
  refine o_blk (pc' := 35) (st' := [(.ref ix), (.ref ix)]) (ls' := #[.val (.ref ix), .val (.int (Int32.ofNat n)), .unset]) b25_33_35 rfl ?_
  refine o_getF (host := "") (pc' := 38) (v := (.int (Int32.ofNat n))) (Or.inl (own_word hw 200 rfl)) F_ix_linked d25_35 rfl ?_
  refine o_blk (pc' := 40) (st' := [(.int ((Int32.ofNat n) + (1 : Int32))), (.ref ix)]) (ls' := #[.val (.ref ix), .val (.int (Int32.ofNat n)), .unset]) b25_38_40 rfl ?_
  rw [show Int32.ofNat n + (1 : Int32) = Int32.ofNat (n + 1) from own_addn n 1]
  refine o_blk (pc' := 41) (st' := [(.int (Int32.ofNat (n + 1))), (.ref ix), (.int (Int32.ofNat (n + 1)))]) (ls' := #[.val (.ref ix), .val (.int (Int32.ofNat n)), .unset]) b25_40_41 rfl ?_
  refine o_putF (host := "") (ty := .int) (pc' := 44) (Or.inl (own_word hw 200 rfl)) F_ix_linked E_ix (Or.inl (own_word hw 201 rfl)) (own_word hw 46 rfl) (by decide) rfl rfl N_ix d25_41 rfl ?_
  intro h1 W1
  have F2 := E_r.wr W1
  have F3 := F_r_arity.other W1 (Or.inl ne_r_ix)
  have F4 := F_r_values.other W1 (Or.inl ne_r_ix)
  have F5 := A_vals.other W1 (Ne.symm ne_ix_vals)
  have F6 := E_ix.wr W1
  have F7 := F_ix_this0.other W1 (Or.inr (slot_ne (t := (.object "com/example/mild_horn/mildhorn/datalog/Relation")) (t' := .int) (Or.inr (own_word hw 52 rfl)) (Or.inl (own_word hw 201 rfl)) (by decide) (by decide) (by decide)))
  have F8 := F_ix_positions.other W1 (Or.inr (slot_ne (t := (.array .int)) (t' := .int) (Or.inr (own_word hw 68 rfl)) (Or.inl (own_word hw 201 rfl)) (by decide) (by decide) (by decide)))
  have F9 := A_ps.other W1 (Ne.symm ne_ix_ps)
  have F10 := F_ix_buckets.other W1 (Or.inr (slot_ne (t := (.array .int)) (t' := .int) (Or.inl (own_word hw 55 rfl)) (Or.inl (own_word hw 201 rfl)) (by decide) (by decide) (by decide)))
  have F11 := F_ix_next.other W1 (Or.inr (slot_ne (t := (.array .int)) (t' := .int) (Or.inl (own_word hw 57 rfl)) (Or.inl (own_word hw 201 rfl)) (by decide) (by decide) (by decide)))
  have F12 := F_ix_linked.same W1
  have F13 := A_bk.other W1 (Ne.symm ne_ix_bk)
  have F14 := A_nx.other W1 (Ne.symm ne_ix_nx)
  have Kp15 := (Keep.refl h0 [ix, bk, nx]).wr W1 (Or.inl (by simp))
  refine o_blk (pc' := 45) (st' := [(.ref ix), (.int (Int32.ofNat (n + 1)))]) (ls' := #[.val (.ref ix), .val (.int (Int32.ofNat n)), .unset]) b25_44_45 rfl ?_
  refine o_getF (host := "") (pc' := 48) (v := (.ref bk)) (Or.inl (own_word hw 54 rfl)) F10 d25_45 rfl ?_
  refine o_len (pc' := 49) F13 d25_48 rfl ?_
  rw [List.length_map, L_bk]
  refine o_blk (pc' := 50) (st' := [(.int (4 : Int32)), (.int (16 : Int32)), (.int (Int32.ofNat (n + 1)))]) (ls' := #[.val (.ref ix), .val (.int (Int32.ofNat n)), .unset]) b25_49_50 rfl ?_
  refine o_idiv (pc' := 51) d25_50 (by decide) rfl ?_
  rw [show ((16 : Int32) / (4 : Int32)) = (4 : Int32) from rfl]
  refine o_blk (pc' := 53) (st' := [(.int (12 : Int32)), (.int (Int32.ofNat (n + 1)))]) (ls' := #[.val (.ref ix), .val (.int (Int32.ofNat n)), .unset]) b25_51_53 rfl ?_
  refine o_icY (pc' := 62) d25_53 (by decide) (by decide) (fun q => absurd ((own_ltn (i := 12) (j := n + 1) (by omega) (by omega)).mp q) (by omega) : ¬ (12 : Int32) < (Int32.ofNat (n + 1))) ?_
  refine o_blk (pc' := 64) (st' := [(.int (Int32.ofNat n)), (.ref ix)]) (ls' := #[.val (.ref ix), .val (.int (Int32.ofNat n)), .unset]) b25_62_64 rfl ?_
  refine o_callP (W := 0) (argsL := [(.int (Int32.ofNat n))]) (rest := []) (pc' := 67) (own_word hw 202 rfl) (own_word hw 203 rfl) (own_word hw 204 rfl) (own_word hw 46 rfl) (own_word hw 205 rfl) (own_word hw 47 rfl) (by decide) F6 (fun hE => rm_ht l Z a0 hw h1 hE r ix vals ps kv kp vl n (by omega) F2 F3 F4 F5 L_vals F6 F7 F8 F9 L_ps) d25_64 pd_9 rfl rfl rfl (Nat.le_of_eq rfl) (by decide) (by decide) (by decide) (by decide) rfl ?_
  rintro _ _ ⟨z16, rfl, rfl⟩ hs17
  refine o_blk (pc' := 68) (st' := [(.ref ix), (.int z16)]) (ls' := #[.val (.ref ix), .val (.int (Int32.ofNat n)), .unset]) b25_67_68 rfl ?_
  refine o_getF (host := "") (pc' := 71) (v := (.ref bk)) (Or.inl (own_word hw 54 rfl)) F10 d25_68 rfl ?_
  refine o_len (pc' := 72) F13 d25_71 rfl ?_
  rw [List.length_map, L_bk]
  refine o_callSN (W := 0) (argsL := [(.int z16), (.int (16 : Int32))]) (rest := []) (pc' := 75) (own_word hw 212 rfl) (own_word hw 140 rfl) (own_word hw 3 rfl) (own_word hw 141 rfl) (by decide) (fun hE => rm_bu l Z a0 hw z16 h1 hE) d25_72 pd_4 rfl rfl rfl (Nat.le_of_eq rfl) (by decide) (by decide) (by decide) (by decide) rfl ?_
  rintro _ _ ⟨i18, hi18, rfl, rfl⟩ hs19
  refine o_blk (pc' := 76) (st' := []) (ls' := #[.val (.ref ix), .val (.int (Int32.ofNat n)), .val (.int (Int32.ofNat i18))]) b25_75_76 rfl ?_
  refine o_blk (pc' := 77) (st' := [(.ref ix)]) (ls' := #[.val (.ref ix), .val (.int (Int32.ofNat n)), .val (.int (Int32.ofNat i18))]) b25_76_77 rfl ?_
  refine o_getF (host := "") (pc' := 80) (v := (.ref nx)) (Or.inl (own_word hw 56 rfl)) F11 d25_77 rfl ?_
  refine o_blk (pc' := 82) (st' := [(.ref ix), (.int (Int32.ofNat n)), (.ref nx)]) (ls' := #[.val (.ref ix), .val (.int (Int32.ofNat n)), .val (.int (Int32.ofNat i18))]) b25_80_82 rfl ?_
  refine o_getF (host := "") (pc' := 85) (v := (.ref bk)) (Or.inl (own_word hw 54 rfl)) F10 d25_82 rfl ?_
  refine o_blk (pc' := 86) (st' := [(.int (Int32.ofNat i18)), (.ref bk), (.int (Int32.ofNat n)), (.ref nx)]) (ls' := #[.val (.ref ix), .val (.int (Int32.ofNat n)), .val (.int (Int32.ofNat i18))]) b25_85_86 rfl ?_
  refine o_iald (i := i18) (v := (.int (bl.getD i18 0))) (pc' := 87) F13 rfl (own_getI (by rw [L_bk]; omega)) d25_86 rfl ?_
  refine o_iast (i := n) (pc' := 88) F14 rfl (by rw [List.length_map, L_nx]; omega) N_nx d25_87 rfl ?_
  intro h20 W20
  have F21 := F2.wr W20
  have F22 := F3.other W20 (Or.inl ne_r_nx)
  have F23 := F4.other W20 (Or.inl ne_r_nx)
  have F24 := F5.other W20 ne_vals_nx
  have F25 := F6.wr W20
  have F26 := F7.other W20 (Or.inl ne_ix_nx)
  have F27 := F8.other W20 (Or.inl ne_ix_nx)
  have F28 := F9.other W20 (Ne.symm ne_nx_ps)
  have F29 := F10.other W20 (Or.inl ne_ix_nx)
  have F30 := F11.other W20 (Or.inl ne_ix_nx)
  have F31 := F12.other W20 (Or.inl ne_ix_nx)
  have F32 := F13.other W20 ne_bk_nx
  have F33 := own_setI F14 W20
  have hl34 : (nl.set n (bl.getD i18 0)).length = 16 := by rw [List.length_set]; exact L_nx
  have Kp35 := Kp15.wr W20 (Or.inl (by simp))
  refine o_blk (pc' := 89) (st' := [(.ref ix)]) (ls' := #[.val (.ref ix), .val (.int (Int32.ofNat n)), .val (.int (Int32.ofNat i18))]) b25_88_89 rfl ?_
  refine o_getF (host := "") (pc' := 92) (v := (.ref bk)) (Or.inl (own_word hw 54 rfl)) F29 d25_89 rfl ?_
  refine o_blk (pc' := 94) (st' := [(.int (Int32.ofNat n)), (.int (Int32.ofNat i18)), (.ref bk)]) (ls' := #[.val (.ref ix), .val (.int (Int32.ofNat n)), .val (.int (Int32.ofNat i18))]) b25_92_94 rfl ?_
  refine o_iast (i := i18) (pc' := 95) F32 rfl (by rw [List.length_map, L_bk]; omega) N_bk d25_94 rfl ?_
  intro h36 W36
  have F37 := F21.wr W36
  have F38 := F22.other W36 (Or.inl ne_r_bk)
  have F39 := F23.other W36 (Or.inl ne_r_bk)
  have F40 := F24.other W36 ne_vals_bk
  have F41 := F25.wr W36
  have F42 := F26.other W36 (Or.inl ne_ix_bk)
  have F43 := F27.other W36 (Or.inl ne_ix_bk)
  have F44 := F28.other W36 (Ne.symm ne_bk_ps)
  have F45 := F29.other W36 (Or.inl ne_ix_bk)
  have F46 := F30.other W36 (Or.inl ne_ix_bk)
  have F47 := F31.other W36 (Or.inl ne_ix_bk)
  have F48 := own_setI F32 W36
  have hl49 : (bl.set i18 (Int32.ofNat n)).length = 16 := by rw [List.length_set]; exact L_bk
  have F50 := F33.other W36 (Ne.symm ne_bk_nx)
  have Kp51 := Kp35.wr W36 (Or.inl (by simp))
  exact o_retV d25_95 (by decide) (by decide) rfl ⟨rfl, _, _, ⟨F41, F42, F43, F45, F46, F47⟩, F48, F50, hl49, hl34, own_b1 L_bk (by omega) Hb, own_b2 L_nx (by omega) (Hb i18 (by omega)) Hn, Kp51⟩
set_option maxRecDepth 65536 in
set_option maxHeartbeats 40000000 in
theorem rm_it0 (l : Launch) (Z : State) (a0 : Array Value) (hw : ∀ d ∈ tables_1, d.before a0 Z = true)  (h0 : Heap) (hE0 : Ext Z.heap h0) (it al : Addr) (E_it : Exa Z h0 it "java/util/ArrayList$Itr") (F_it_cursor : Fld Z h0 it "java/util/ArrayList$Itr" "cursor" "I" (.int (0 : Int32))) (F_it_lastRet : Fld Z h0 it "java/util/ArrayList$Itr" "lastRet" "I" (.int (0 : Int32))) (F_it_expectedModCount : Fld Z h0 it "java/util/ArrayList$Itr" "expectedModCount" "I" (.int (0 : Int32))) (F_it_this0 : Fld Z h0 it "java/util/ArrayList$Itr" "this$0" "Ljava/util/ArrayList;" .null) (E_al : Exa Z h0 al "java/util/ArrayList") (F_al_modCount : Fld Z h0 al "java/util/AbstractList" "modCount" "I" (.int (1 : Int32))) (N_it : Z.heap.size ≤ it) (ne_al_it : al ≠ it) :
    OCtr l Z (⟨"java/util/ArrayList$Itr", "<init>", "(Ljava/util/ArrayList;)V"⟩ : MethodName) jdk_49_method_1_code 2 none ({ frames := 1, cells := 0, slots := 0, locals := 12 } : Room) #[(.ref it), (.ref al)] h0 (fun v h => v = none ∧ OItr Z h it al 0 (-1) 1 ∧ Keep h0 h [it]) := by
  refine o_body (ls0 := #[.val (.ref it), .val (.ref al)]) (plainFor_of_name pn_6) hE0 (fun m => by first | (simp [entryFrame, mkF, argsToLocals, Value.category]; done) | rfl) ?_
  intro pG eG sG mG bG meG cG
  refine o_blk (pc' := 2) (st' := [(.ref al), (.ref it)]) (ls' := #[.val (.ref it), .val (.ref al)]) b21_0_2 rfl ?_
  refine o_putF (host := "") (ty := (.object "java/util/ArrayList")) (pc' := 5) (Or.inl (own_word hw 161 rfl)) F_it_this0 E_it (Or.inr ⟨(own_word hw 162 rfl), rfl, rfl⟩) (own_word hw 155 rfl) (by decide) rfl rfl N_it d21_2 rfl ?_
  intro h1 W1
  have F2 := E_it.wr W1
  have F3 := F_it_cursor.other W1 (Or.inr (slot_ne (t := .int) (t' := (.object "java/util/ArrayList")) (Or.inl (own_word hw 179 rfl)) (Or.inr (own_word hw 162 rfl)) (by decide) (by decide) (by decide)))
  have F4 := F_it_lastRet.other W1 (Or.inr (slot_ne (t := .int) (t' := (.object "java/util/ArrayList")) (Or.inl (own_word hw 165 rfl)) (Or.inr (own_word hw 162 rfl)) (by decide) (by decide) (by decide)))
  have F5 := F_it_expectedModCount.other W1 (Or.inr (slot_ne (t := .int) (t' := (.object "java/util/ArrayList")) (Or.inl (own_word hw 168 rfl)) (Or.inr (own_word hw 162 rfl)) (by decide) (by decide) (by decide)))
  have F6 := F_it_this0.same W1
  have F7 := E_al.wr W1
  have F8 := F_al_modCount.other W1 (Or.inl ne_al_it)
  have Kp9 := (Keep.refl h0 [it]).wr W1 (Or.inl (by simp))
  refine o_blk (pc' := 6) (st' := [(.ref it)]) (ls' := #[.val (.ref it), .val (.ref al)]) b21_5_6 rfl ?_
  refine o_initO (W := 0) (pc' := 9) (own_word hw 163 rfl) (own_word hw 8 rfl) (own_word hw 9 rfl) d21_6 rfl (Nat.le_of_eq rfl) (by decide) (by decide) rfl ?_
  refine o_blk (pc' := 11) (st' := [(.int (-1 : Int32)), (.ref it)]) (ls' := #[.val (.ref it), .val (.ref al)]) b21_9_11 rfl ?_
  refine o_putF (host := "") (ty := .int) (pc' := 14) (Or.inl (own_word hw 164 rfl)) F4 F2 (Or.inl (own_word hw 165 rfl)) (own_word hw 155 rfl) (by decide) rfl rfl N_it d21_11 rfl ?_
  intro h10 W10
  have F11 := F2.wr W10
  have F12 := F3.other W10 (Or.inr (slot_ne (t := .int) (t' := .int) (Or.inl (own_word hw 179 rfl)) (Or.inl (own_word hw 165 rfl)) (by decide) (by decide) (by decide)))
  have F13 := F4.same W10
  have F14 := F5.other W10 (Or.inr (slot_ne (t := .int) (t' := .int) (Or.inl (own_word hw 168 rfl)) (Or.inl (own_word hw 165 rfl)) (by decide) (by decide) (by decide)))
  have F15 := F6.other W10 (Or.inr (slot_ne (t := (.object "java/util/ArrayList")) (t' := .int) (Or.inr (own_word hw 162 rfl)) (Or.inl (own_word hw 165 rfl)) (by decide) (by decide) (by decide)))
  have F16 := F7.wr W10
  have F17 := F8.other W10 (Or.inl ne_al_it)
  have Kp18 := Kp9.wr W10 (Or.inl (by simp))
  refine o_blk (pc' := 16) (st' := [(.ref it), (.ref it)]) (ls' := #[.val (.ref it), .val (.ref al)]) b21_14_16 rfl ?_
  refine o_getF (host := "") (pc' := 19) (v := (.ref al)) (Or.inl (own_word hw 161 rfl)) F15 d21_16 rfl ?_
  refine o_getFV (host := "") (pc' := 22) (v := (.int (1 : Int32))) (Or.inl (own_word hw 166 rfl)) (own_word hw 85 rfl) F17 d21_19 rfl ?_
  refine o_putF (host := "") (ty := .int) (pc' := 25) (Or.inl (own_word hw 167 rfl)) F14 F11 (Or.inl (own_word hw 168 rfl)) (own_word hw 155 rfl) (by decide) rfl rfl N_it d21_22 rfl ?_
  intro h19 W19
  have F20 := F11.wr W19
  have F21 := F12.other W19 (Or.inr (slot_ne (t := .int) (t' := .int) (Or.inl (own_word hw 179 rfl)) (Or.inl (own_word hw 168 rfl)) (by decide) (by decide) (by decide)))
  have F22 := F13.other W19 (Or.inr (slot_ne (t := .int) (t' := .int) (Or.inl (own_word hw 165 rfl)) (Or.inl (own_word hw 168 rfl)) (by decide) (by decide) (by decide)))
  have F23 := F14.same W19
  have F24 := F15.other W19 (Or.inr (slot_ne (t := (.object "java/util/ArrayList")) (t' := .int) (Or.inr (own_word hw 162 rfl)) (Or.inl (own_word hw 168 rfl)) (by decide) (by decide) (by decide)))
  have F25 := F16.wr W19
  have F26 := F17.other W19 (Or.inl ne_al_it)
  have Kp27 := Kp18.wr W19 (Or.inl (by simp))
  exact o_retV d21_25 (by decide) (by decide) rfl ⟨rfl, ⟨F20, F21, F22, F23, F24⟩, Kp27⟩
set_option maxRecDepth 65536 in
set_option maxHeartbeats 40000000 in
theorem rm_it (l : Launch) (Z : State) (a0 : Array Value) (hw : ∀ d ∈ tables_1, d.before a0 Z = true)  (h0 : Heap) (hE0 : Ext Z.heap h0) (al : Addr) (E_al : Exa Z h0 al "java/util/ArrayList") (F_al_modCount : Fld Z h0 al "java/util/AbstractList" "modCount" "I" (.int (1 : Int32))) :
    OCtr l Z (⟨"java/util/ArrayList", "iterator", "()Ljava/util/Iterator;"⟩ : MethodName) jdk_38_method_55_code 1 (some (.object "java/util/Iterator")) ({ frames := 2, cells := 1, slots := 4, locals := 26 } : Room) #[(.ref al)] h0 (fun v h => ∃ it : Addr, v = some (.ref it) ∧ OItr Z h it al 0 (-1) 1 ∧ h0.size ≤ it ∧ Z.heap.size ≤ it ∧ Keep h0 h []) := by
  refine o_body (ls0 := #[.val (.ref al)]) (plainFor_of_name pn_2) hE0 (fun m => by first | (simp [entryFrame, mkF, argsToLocals, Value.category]; done) | rfl) ?_
  intro pG eG sG mG bG meG cG
  refine o_newO (pc' := 3) (own_word hw 154 rfl) (own_word hw 155 rfl) (own_word hw 156 rfl) d20_0 (by decide) (by decide) rfl ?_
  intro h1 a1 ea1 na1 X1 E1 D1
  have ne2 : al ≠ a1 := Nat.ne_of_lt (by rw [ea1]; exact E_al.lt)
  have ol3 : h0.size ≤ a1 := by rw [ea1]; exact (Keep.refl h0 []).1
  have F4 := E_al.ext X1
  have F5 := F_al_modCount.ext X1
  have F6 := (Keep.refl h0 []).ext X1
  have F7 : Fld Z h1 a1 "java/util/ArrayList$Itr" "cursor" "I" (.int (0 : Int32)) := D1 (Or.inl (own_word hw 179 rfl)) (ty := .int) (by decide)
  have F8 : Fld Z h1 a1 "java/util/ArrayList$Itr" "lastRet" "I" (.int (0 : Int32)) := D1 (Or.inl (own_word hw 165 rfl)) (ty := .int) (by decide)
  have F9 : Fld Z h1 a1 "java/util/ArrayList$Itr" "expectedModCount" "I" (.int (0 : Int32)) := D1 (Or.inl (own_word hw 168 rfl)) (ty := .int) (by decide)
  have F10 : Fld Z h1 a1 "java/util/ArrayList$Itr" "this$0" "Ljava/util/ArrayList;" .null := D1 (Or.inr (own_word hw 162 rfl)) (ty := (.object "java/util/ArrayList")) (by decide)
  refine o_blk (pc' := 5) (st' := [(.ref al), (.ref a1), (.ref a1)]) (ls' := #[.val (.ref al)]) b20_3_5 rfl ?_
  refine o_callI (W := 1) (argsL := [(.ref al)]) (rest := [(.ref a1)]) (pc' := 8) rfl (own_word hw 157 rfl) (own_word hw 158 rfl) (own_word hw 160 rfl) (own_word hw 156 rfl) (by decide) (fun hE => rm_it0 l Z a0 hw h1 hE a1 al E1 F7 F8 F9 F10 F4 F5 na1 ne2) d20_5 pd_10 rfl rfl rfl (Nat.le_of_eq rfl) (by decide) (by decide) (by decide) (by decide) rfl ?_
  rintro _ hit ⟨rfl, Iit, Kit⟩ hs11
  have F12 := F4.keep Kit
  have F13 := F5.keep Kit (ninS ne2 nin0)
  have F14 := F6.trans Kit (allS (Or.inr ol3) all0)
  have F15 := E1.keep Kit
  exact o_retA d20_8 (by decide) (by decide) rfl rfl rfl ⟨a1, rfl, Iit, ol3, na1, F14⟩
set_option maxRecDepth 65536 in
set_option maxHeartbeats 40000000 in
theorem rm_hn0 (l : Launch) (Z : State) (a0 : Array Value) (hw : ∀ d ∈ tables_1, d.before a0 Z = true)  (h0 : Heap) (hE0 : Ext Z.heap h0) (it al : Addr) (E_it : Exa Z h0 it "java/util/ArrayList$Itr") (F_it_cursor : Fld Z h0 it "java/util/ArrayList$Itr" "cursor" "I" (.int (0 : Int32))) (F_it_expectedModCount : Fld Z h0 it "java/util/ArrayList$Itr" "expectedModCount" "I" (.int (1 : Int32))) (F_it_this0 : Fld Z h0 it "java/util/ArrayList$Itr" "this$0" "Ljava/util/ArrayList;" (.ref al)) (E_al : Exa Z h0 al "java/util/ArrayList") (F_al_size : Fld Z h0 al "java/util/ArrayList" "size" "I" (.int (1 : Int32))) (F_al_modCount : Fld Z h0 al "java/util/AbstractList" "modCount" "I" (.int (1 : Int32))) :
    OCtr l Z (⟨"java/util/ArrayList$Itr", "hasNext", "()Z"⟩ : MethodName) jdk_49_method_2_code 1 (some .boolean) ({ frames := 0, cells := 0, slots := 0, locals := 0 } : Room) #[(.ref it)] h0 (fun v h => v = some (.int 1) ∧ h0 = h) := by
  refine o_body (ls0 := #[.val (.ref it)]) (plainFor_of_name pn_6) hE0 (fun m => by first | (simp [entryFrame, mkF, argsToLocals, Value.category]; done) | rfl) ?_
  intro pG eG sG mG bG meG cG
  refine o_blk (pc' := 1) (st' := [(.ref it)]) (ls' := #[.val (.ref it)]) b22_0_1 rfl ?_
  refine o_getF (host := "") (pc' := 4) (v := (.int (0 : Int32))) (Or.inl (own_word hw 178 rfl)) F_it_cursor d22_1 rfl ?_
  refine o_blk (pc' := 5) (st' := [(.ref it), (.int (0 : Int32))]) (ls' := #[.val (.ref it)]) b22_4_5 rfl ?_
  refine o_getF (host := "") (pc' := 8) (v := (.ref al)) (Or.inl (own_word hw 161 rfl)) F_it_this0 d22_5 rfl ?_
  refine o_getF (host := "java/util/ArrayList") (pc' := 11) (v := (.int (1 : Int32))) (Or.inr (own_word hw 180 rfl)) F_al_size d22_8 rfl ?_
  refine o_icN (pc' := 14) d22_11 rfl (by decide : ¬ (0 : Int32) = (1 : Int32)) ?_
  refine o_blk (pc' := 15) (st' := [(.int (1 : Int32))]) (ls' := #[.val (.ref it)]) b22_14_15 rfl ?_
  refine o_goto (pc' := 19) d22_15 (by decide) (by decide) ?_
  exact o_retZ (w := 0) d22_19 (by decide) (by decide) rfl (by decide) ⟨rfl, rfl⟩
set_option maxRecDepth 65536 in
set_option maxHeartbeats 40000000 in
theorem rm_hn1 (l : Launch) (Z : State) (a0 : Array Value) (hw : ∀ d ∈ tables_1, d.before a0 Z = true)  (h0 : Heap) (hE0 : Ext Z.heap h0) (it al : Addr) (E_it : Exa Z h0 it "java/util/ArrayList$Itr") (F_it_cursor : Fld Z h0 it "java/util/ArrayList$Itr" "cursor" "I" (.int (1 : Int32))) (F_it_expectedModCount : Fld Z h0 it "java/util/ArrayList$Itr" "expectedModCount" "I" (.int (1 : Int32))) (F_it_this0 : Fld Z h0 it "java/util/ArrayList$Itr" "this$0" "Ljava/util/ArrayList;" (.ref al)) (E_al : Exa Z h0 al "java/util/ArrayList") (F_al_size : Fld Z h0 al "java/util/ArrayList" "size" "I" (.int (1 : Int32))) (F_al_modCount : Fld Z h0 al "java/util/AbstractList" "modCount" "I" (.int (1 : Int32))) :
    OCtr l Z (⟨"java/util/ArrayList$Itr", "hasNext", "()Z"⟩ : MethodName) jdk_49_method_2_code 1 (some .boolean) ({ frames := 0, cells := 0, slots := 0, locals := 0 } : Room) #[(.ref it)] h0 (fun v h => v = some (.int 0) ∧ h0 = h) := by
  refine o_body (ls0 := #[.val (.ref it)]) (plainFor_of_name pn_6) hE0 (fun m => by first | (simp [entryFrame, mkF, argsToLocals, Value.category]; done) | rfl) ?_
  intro pG eG sG mG bG meG cG
  refine o_blk (pc' := 1) (st' := [(.ref it)]) (ls' := #[.val (.ref it)]) b22_0_1 rfl ?_
  refine o_getF (host := "") (pc' := 4) (v := (.int (1 : Int32))) (Or.inl (own_word hw 178 rfl)) F_it_cursor d22_1 rfl ?_
  refine o_blk (pc' := 5) (st' := [(.ref it), (.int (1 : Int32))]) (ls' := #[.val (.ref it)]) b22_4_5 rfl ?_
  refine o_getF (host := "") (pc' := 8) (v := (.ref al)) (Or.inl (own_word hw 161 rfl)) F_it_this0 d22_5 rfl ?_
  refine o_getF (host := "java/util/ArrayList") (pc' := 11) (v := (.int (1 : Int32))) (Or.inr (own_word hw 180 rfl)) F_al_size d22_8 rfl ?_
  refine o_icY (pc' := 18) d22_11 (by decide) (by decide) (by decide : (1 : Int32) = (1 : Int32)) ?_
  refine o_blk (pc' := 19) (st' := [(.int (0 : Int32))]) (ls' := #[.val (.ref it)]) b22_18_19 rfl ?_
  exact o_retZ (w := 0) d22_19 (by decide) (by decide) rfl (by decide) ⟨rfl, rfl⟩
set_option maxRecDepth 65536 in
set_option maxHeartbeats 40000000 in
theorem rm_cc (l : Launch) (Z : State) (a0 : Array Value) (hw : ∀ d ∈ tables_1, d.before a0 Z = true)  (h0 : Heap) (hE0 : Ext Z.heap h0) (it al : Addr) (E_it : Exa Z h0 it "java/util/ArrayList$Itr") (F_it_cursor : Fld Z h0 it "java/util/ArrayList$Itr" "cursor" "I" (.int (0 : Int32))) (F_it_expectedModCount : Fld Z h0 it "java/util/ArrayList$Itr" "expectedModCount" "I" (.int (1 : Int32))) (F_it_this0 : Fld Z h0 it "java/util/ArrayList$Itr" "this$0" "Ljava/util/ArrayList;" (.ref al)) (E_al : Exa Z h0 al "java/util/ArrayList") (F_al_size : Fld Z h0 al "java/util/ArrayList" "size" "I" (.int (1 : Int32))) (F_al_modCount : Fld Z h0 al "java/util/AbstractList" "modCount" "I" (.int (1 : Int32))) :
    OCtr l Z (⟨"java/util/ArrayList$Itr", "checkForComodification", "()V"⟩ : MethodName) jdk_49_method_6_code 1 none ({ frames := 0, cells := 0, slots := 0, locals := 0 } : Room) #[(.ref it)] h0 (fun v h => v = none ∧ h0 = h) := by
  refine o_body (ls0 := #[.val (.ref it)]) (plainFor_of_name pn_6) hE0 (fun m => by first | (simp [entryFrame, mkF, argsToLocals, Value.category]; done) | rfl) ?_
  intro pG eG sG mG bG meG cG
  refine o_blk (pc' := 1) (st' := [(.ref it)]) (ls' := #[.val (.ref it)]) b24_0_1 rfl ?_
  refine o_getF (host := "") (pc' := 4) (v := (.ref al)) (Or.inl (own_word hw 161 rfl)) F_it_this0 d24_1 rfl ?_
  refine o_getFV (host := "") (pc' := 7) (v := (.int (1 : Int32))) (Or.inl (own_word hw 166 rfl)) (own_word hw 85 rfl) F_al_modCount d24_4 rfl ?_
  refine o_blk (pc' := 8) (st' := [(.ref it), (.int (1 : Int32))]) (ls' := #[.val (.ref it)]) b24_7_8 rfl ?_
  refine o_getF (host := "") (pc' := 11) (v := (.int (1 : Int32))) (Or.inl (own_word hw 167 rfl)) F_it_expectedModCount d24_8 rfl ?_
  refine o_icY (pc' := 22) d24_11 (by decide) (by decide) (by decide : (1 : Int32) = (1 : Int32)) ?_
  exact o_retV d24_22 (by decide) (by decide) rfl ⟨rfl, rfl⟩
set_option maxRecDepth 65536 in
set_option maxHeartbeats 40000000 in
theorem rm_nx (l : Launch) (Z : State) (a0 : Array Value) (hw : ∀ d ∈ tables_1, d.before a0 Z = true)  (h0 : Heap) (hE0 : Ext Z.heap h0) (it al ed ix : Addr) (ke : ClassId) (E_it : Exa Z h0 it "java/util/ArrayList$Itr") (F_it_cursor : Fld Z h0 it "java/util/ArrayList$Itr" "cursor" "I" (.int (0 : Int32))) (F_it_lastRet : Fld Z h0 it "java/util/ArrayList$Itr" "lastRet" "I" (.int (-1 : Int32))) (F_it_expectedModCount : Fld Z h0 it "java/util/ArrayList$Itr" "expectedModCount" "I" (.int (1 : Int32))) (F_it_this0 : Fld Z h0 it "java/util/ArrayList$Itr" "this$0" "Ljava/util/ArrayList;" (.ref al)) (E_al : Exa Z h0 al "java/util/ArrayList") (F_al_size : Fld Z h0 al "java/util/ArrayList" "size" "I" (.int (1 : Int32))) (F_al_modCount : Fld Z h0 al "java/util/AbstractList" "modCount" "I" (.int (1 : Int32))) (F_al_elementData : Fld Z h0 al "java/util/ArrayList" "elementData" "[Ljava/lang/Object;" (.ref ed)) (A_ed : OArr Z h0 ed ke (.object "java/lang/Object") [(.ref ix)]) (N_it : Z.heap.size ≤ it) (ne_al_it : al ≠ it) (ne_ed_it : ed ≠ it) :
    OCtr l Z (⟨"java/util/ArrayList$Itr", "next", "()Ljava/lang/Object;"⟩ : MethodName) jdk_49_method_3_code 3 (some (.object "java/lang/Object")) ({ frames := 1, cells := 0, slots := 0, locals := 12 } : Room) #[(.ref it)] h0 (fun v h => v = some (.ref ix) ∧ OItr Z h it al 1 0 1 ∧ Keep h0 h [it]) := by
  refine o_body (ls0 := #[.val (.ref it), .unset, .unset]) (plainFor_of_name pn_6) hE0 (fun m => by first | (simp [entryFrame, mkF, argsToLocals, Value.category]; done) | rfl) ?_
  intro pG eG sG mG bG meG cG
  refine o_blk (pc' := 1) (st' := [(.ref it)]) (ls' := #[.val (.ref it), .unset, .unset]) b23_0_1 rfl ?_
  refine o_callV (W := 0) (argsL := []) (rest := []) (pc' := 4) (own_word hw 189 rfl) (own_word hw 190 rfl) (own_word hw 192 rfl) (own_word hw 192 rfl) (own_word hw 191 rfl) (own_word hw 193 rfl) (own_word hw 156 rfl) (by decide) E_it (fun hE => rm_cc l Z a0 hw h0 hE it al E_it F_it_cursor F_it_expectedModCount F_it_this0 E_al F_al_size F_al_modCount) d23_1 pd_0 rfl rfl rfl (Nat.le_of_eq rfl) (by decide) (by decide) (by decide) (by decide) rfl ?_
  rintro _ _ ⟨rfl, rfl⟩ hs1
  refine o_blk (pc' := 5) (st' := [(.ref it)]) (ls' := #[.val (.ref it), .unset, .unset]) b23_4_5 rfl ?_
  refine o_getF (host := "") (pc' := 8) (v := (.int (0 : Int32))) (Or.inl (own_word hw 178 rfl)) F_it_cursor d23_5 rfl ?_
  refine o_blk (pc' := 9) (st' := []) (ls' := #[.val (.ref it), .val (.int (0 : Int32)), .unset]) b23_8_9 rfl ?_
  refine o_blk (pc' := 11) (st' := [(.ref it), (.int (0 : Int32))]) (ls' := #[.val (.ref it), .val (.int (0 : Int32)), .unset]) b23_9_11 rfl ?_
  refine o_getF (host := "") (pc' := 14) (v := (.ref al)) (Or.inl (own_word hw 161 rfl)) F_it_this0 d23_11 rfl ?_
  refine o_getF (host := "java/util/ArrayList") (pc' := 17) (v := (.int (1 : Int32))) (Or.inr (own_word hw 180 rfl)) F_al_size d23_14 rfl ?_
  refine o_icY (pc' := 28) d23_17 (by decide) (by decide) (by decide : (0 : Int32) < (1 : Int32)) ?_
  refine o_blk (pc' := 29) (st' := [(.ref it)]) (ls' := #[.val (.ref it), .val (.int (0 : Int32)), .unset]) b23_28_29 rfl ?_
  refine o_getF (host := "") (pc' := 32) (v := (.ref al)) (Or.inl (own_word hw 161 rfl)) F_it_this0 d23_29 rfl ?_
  refine o_getF (host := "") (pc' := 35) (v := (.ref ed)) (Or.inl (own_word hw 194 rfl)) F_al_elementData d23_32 rfl ?_
  refine o_blk (pc' := 36) (st' := []) (ls' := #[.val (.ref it), .val (.int (0 : Int32)), .val (.ref ed)]) b23_35_36 rfl ?_
  refine o_blk (pc' := 38) (st' := [(.ref ed), (.int (0 : Int32))]) (ls' := #[.val (.ref it), .val (.int (0 : Int32)), .val (.ref ed)]) b23_36_38 rfl ?_
  refine o_len (pc' := 39) A_ed d23_38 rfl ?_
  refine o_icY (pc' := 50) d23_39 (by decide) (by decide) (by decide : (0 : Int32) < (1 : Int32)) ?_
  refine o_blk (pc' := 54) (st' := [(.int (1 : Int32)), (.ref it)]) (ls' := #[.val (.ref it), .val (.int (0 : Int32)), .val (.ref ed)]) b23_50_54 rfl ?_
  refine o_putF (host := "") (ty := .int) (pc' := 57) (Or.inl (own_word hw 178 rfl)) F_it_cursor E_it (Or.inl (own_word hw 179 rfl)) (own_word hw 155 rfl) (by decide) rfl rfl N_it d23_54 rfl ?_
  intro h2 W2
  have F3 := E_it.wr W2
  have F4 := F_it_cursor.same W2
  have F5 := F_it_lastRet.other W2 (Or.inr (slot_ne (t := .int) (t' := .int) (Or.inl (own_word hw 165 rfl)) (Or.inl (own_word hw 179 rfl)) (by decide) (by decide) (by decide)))
  have F6 := F_it_expectedModCount.other W2 (Or.inr (slot_ne (t := .int) (t' := .int) (Or.inl (own_word hw 168 rfl)) (Or.inl (own_word hw 179 rfl)) (by decide) (by decide) (by decide)))
  have F7 := F_it_this0.other W2 (Or.inr (slot_ne (t := (.object "java/util/ArrayList")) (t' := .int) (Or.inr (own_word hw 162 rfl)) (Or.inl (own_word hw 179 rfl)) (by decide) (by decide) (by decide)))
  have F8 := E_al.wr W2
  have F9 := F_al_size.other W2 (Or.inl ne_al_it)
  have F10 := F_al_modCount.other W2 (Or.inl ne_al_it)
  have F11 := F_al_elementData.other W2 (Or.inl ne_al_it)
  have F12 := A_ed.other W2 ne_ed_it
  have Kp13 := (Keep.refl h0 [it]).wr W2 (Or.inl (by simp))
  refine o_blk (pc' := 61) (st' := [(.int (0 : Int32)), (.ref it), (.int (0 : Int32)), (.ref ed)]) (ls' := #[.val (.ref it), .val (.int (0 : Int32)), .val (.ref ed)]) b23_57_61 rfl ?_
  refine o_putF (host := "") (ty := .int) (pc' := 64) (Or.inl (own_word hw 164 rfl)) F5 F3 (Or.inl (own_word hw 165 rfl)) (own_word hw 155 rfl) (by decide) rfl rfl N_it d23_61 rfl ?_
  intro h14 W14
  have F15 := F3.wr W14
  have F16 := F4.other W14 (Or.inr (slot_ne (t := .int) (t' := .int) (Or.inl (own_word hw 179 rfl)) (Or.inl (own_word hw 165 rfl)) (by decide) (by decide) (by decide)))
  have F17 := F5.same W14
  have F18 := F6.other W14 (Or.inr (slot_ne (t := .int) (t' := .int) (Or.inl (own_word hw 168 rfl)) (Or.inl (own_word hw 165 rfl)) (by decide) (by decide) (by decide)))
  have F19 := F7.other W14 (Or.inr (slot_ne (t := (.object "java/util/ArrayList")) (t' := .int) (Or.inr (own_word hw 162 rfl)) (Or.inl (own_word hw 165 rfl)) (by decide) (by decide) (by decide)))
  have F20 := F8.wr W14
  have F21 := F9.other W14 (Or.inl ne_al_it)
  have F22 := F10.other W14 (Or.inl ne_al_it)
  have F23 := F11.other W14 (Or.inl ne_al_it)
  have F24 := F12.other W14 ne_ed_it
  have Kp25 := Kp13.wr W14 (Or.inl (by simp))
  refine o_aald (i := 0) (v := (.ref ix)) (pc' := 65) F24 rfl rfl rfl d23_64 rfl ?_
  exact o_retA d23_65 (by decide) (by decide) rfl rfl rfl ⟨rfl, ⟨F15, F16, F17, F18, F19⟩, Kp25⟩
set_option maxRecDepth 65536 in
set_option maxHeartbeats 40000000 in
theorem rm_stable (l : Launch) (Z : State) (a0 : Array Value) (hw : ∀ d ∈ tables_1, d.before a0 Z = true)  (h0 : Heap) (hE0 : Ext Z.heap h0) (r ix al ed vals bk nx ps : Addr) (D : RN Z [r, ix, al, ed, vals, bk, nx, ps]) (n : Nat) (st kn : Int32) (HI : RI Z h0 r ix al ed vals bk nx ps n st kn) :
    OCtr l Z (⟨"com/example/mild_horn/mildhorn/datalog/Relation", "stable", "()I"⟩ : MethodName) prog_24_method_4_code 1 (some .int) ({ frames := 0, cells := 0, slots := 0, locals := 0 } : Room) #[(.ref r)] h0 (fun v h => v = some (.int st) ∧ h0 = h) := by
  obtain ⟨ke, kv, kb, kn2, kp, vl, bl, nl, ⟨Er, Fra, Frv, Frs, Frst, Frk, Fral, Frin⟩, ⟨Eix, Fit, Fip, Fib, Fin, Fil⟩, ⟨Eal, Flm, Fle, Fls⟩, Aed, Avl, Abk, Anx, Aps, Lv, Lb, Ln, Hb, Hn⟩ := HI
  refine o_body (ls0 := #[.val (.ref r)]) (plainFor_of_name pn_5) hE0 (fun m => by first | (simp [entryFrame, mkF, argsToLocals, Value.category]; done) | rfl) ?_
  intro pG eG sG mG bG meG cG
  refine o_blk (pc' := 1) (st' := [(.ref r)]) (ls' := #[.val (.ref r)]) b13_0_1 rfl ?_
  refine o_getF (host := "") (pc' := 4) (v := (.int st)) (Or.inl (own_word hw 105 rfl)) Frst d13_1 rfl ?_
  exact o_retI d13_4 (by decide) (by decide) rfl ⟨rfl, rfl⟩
set_option maxRecDepth 65536 in
set_option maxHeartbeats 40000000 in
theorem rm_known (l : Launch) (Z : State) (a0 : Array Value) (hw : ∀ d ∈ tables_1, d.before a0 Z = true)  (h0 : Heap) (hE0 : Ext Z.heap h0) (r ix al ed vals bk nx ps : Addr) (D : RN Z [r, ix, al, ed, vals, bk, nx, ps]) (n : Nat) (st kn : Int32) (HI : RI Z h0 r ix al ed vals bk nx ps n st kn) :
    OCtr l Z (⟨"com/example/mild_horn/mildhorn/datalog/Relation", "known", "()I"⟩ : MethodName) prog_24_method_5_code 1 (some .int) ({ frames := 0, cells := 0, slots := 0, locals := 0 } : Room) #[(.ref r)] h0 (fun v h => v = some (.int kn) ∧ h0 = h) := by
  obtain ⟨ke, kv, kb, kn2, kp, vl, bl, nl, ⟨Er, Fra, Frv, Frs, Frst, Frk, Fral, Frin⟩, ⟨Eix, Fit, Fip, Fib, Fin, Fil⟩, ⟨Eal, Flm, Fle, Fls⟩, Aed, Avl, Abk, Anx, Aps, Lv, Lb, Ln, Hb, Hn⟩ := HI
  refine o_body (ls0 := #[.val (.ref r)]) (plainFor_of_name pn_5) hE0 (fun m => by first | (simp [entryFrame, mkF, argsToLocals, Value.category]; done) | rfl) ?_
  intro pG eG sG mG bG meG cG
  refine o_blk (pc' := 1) (st' := [(.ref r)]) (ls' := #[.val (.ref r)]) b14_0_1 rfl ?_
  refine o_getF (host := "") (pc' := 4) (v := (.int kn)) (Or.inl (own_word hw 103 rfl)) Frk d14_1 rfl ?_
  exact o_retI d14_4 (by decide) (by decide) rfl ⟨rfl, rfl⟩
set_option maxRecDepth 65536 in
set_option maxHeartbeats 40000000 in
theorem rm_size (l : Launch) (Z : State) (a0 : Array Value) (hw : ∀ d ∈ tables_1, d.before a0 Z = true)  (h0 : Heap) (hE0 : Ext Z.heap h0) (r ix al ed vals bk nx ps : Addr) (D : RN Z [r, ix, al, ed, vals, bk, nx, ps]) (n : Nat) (st kn : Int32) (HI : RI Z h0 r ix al ed vals bk nx ps n st kn) :
    OCtr l Z (⟨"com/example/mild_horn/mildhorn/datalog/Relation", "size", "()I"⟩ : MethodName) prog_24_method_3_code 1 (some .int) ({ frames := 0, cells := 0, slots := 0, locals := 0 } : Room) #[(.ref r)] h0 (fun v h => v = some (.int (Int32.ofNat n)) ∧ h0 = h) := by
  obtain ⟨ke, kv, kb, kn2, kp, vl, bl, nl, ⟨Er, Fra, Frv, Frs, Frst, Frk, Fral, Frin⟩, ⟨Eix, Fit, Fip, Fib, Fin, Fil⟩, ⟨Eal, Flm, Fle, Fls⟩, Aed, Avl, Abk, Anx, Aps, Lv, Lb, Ln, Hb, Hn⟩ := HI
  refine o_body (ls0 := #[.val (.ref r)]) (plainFor_of_name pn_5) hE0 (fun m => by first | (simp [entryFrame, mkF, argsToLocals, Value.category]; done) | rfl) ?_
  intro pG eG sG mG bG meG cG
  refine o_blk (pc' := 1) (st' := [(.ref r)]) (ls' := #[.val (.ref r)]) b15_0_1 rfl ?_
  refine o_getF (host := "") (pc' := 4) (v := (.int (Int32.ofNat n))) (Or.inl (own_word hw 107 rfl)) Frs d15_1 rfl ?_
  exact o_retI d15_4 (by decide) (by decide) rfl ⟨rfl, rfl⟩
set_option maxRecDepth 65536 in
set_option maxHeartbeats 40000000 in
theorem rm_sr (l : Launch) (Z : State) (a0 : Array Value) (hw : ∀ d ∈ tables_1, d.before a0 Z = true)  (h0 : Heap) (hE0 : Ext Z.heap h0) (r ix al ed vals bk nx ps : Addr) (D : RN Z [r, ix, al, ed, vals, bk, nx, ps]) (n : Nat) (st kn : Int32) (HI : RI Z h0 r ix al ed vals bk nx ps n st kn) :
    OCtr l Z (⟨"com/example/mild_horn/mildhorn/datalog/Relation", "startRound", "()V"⟩ : MethodName) prog_24_method_6_code 1 none ({ frames := 0, cells := 0, slots := 0, locals := 0 } : Room) #[(.ref r)] h0 (fun v h => v = none ∧ RI Z h r ix al ed vals bk nx ps n kn (Int32.ofNat n) ∧ Keep h0 h [r]) := by
  obtain ⟨ke, kv, kb, kn2, kp, vl, bl, nl, ⟨Er, Fra, Frv, Frs, Frst, Frk, Fral, Frin⟩, ⟨Eix, Fit, Fip, Fib, Fin, Fil⟩, ⟨Eal, Flm, Fle, Fls⟩, Aed, Avl, Abk, Anx, Aps, Lv, Lb, Ln, Hb, Hn⟩ := HI
  refine o_body (ls0 := #[.val (.ref r)]) (plainFor_of_name pn_5) hE0 (fun m => by first | (simp [entryFrame, mkF, argsToLocals, Value.category]; done) | rfl) ?_
  intro pG eG sG mG bG meG cG
  refine o_blk (pc' := 2) (st' := [(.ref r), (.ref r)]) (ls' := #[.val (.ref r)]) b12_0_2 rfl ?_
  refine o_getF (host := "") (pc' := 5) (v := (.int kn)) (Or.inl (own_word hw 103 rfl)) Frk d12_2 rfl ?_
  refine o_putF (host := "") (ty := .int) (pc' := 8) (Or.inl (own_word hw 105 rfl)) Frst Er (Or.inl (own_word hw 106 rfl)) (own_word hw 2 rfl) (by decide) rfl rfl (D.new 0 rfl) d12_5 rfl ?_
  intro h1 W1
  have F2 := Er.wr W1
  have F3 := Fra.other W1 (Or.inr (slot_ne (t := .int) (t' := .int) (Or.inr (own_word hw 38 rfl)) (Or.inl (own_word hw 106 rfl)) (by decide) (by decide) (by decide)))
  have F4 := Frv.other W1 (Or.inr (slot_ne (t := (.array .int)) (t' := .int) (Or.inl (own_word hw 44 rfl)) (Or.inl (own_word hw 106 rfl)) (by decide) (by decide) (by decide)))
  have F5 := Frs.other W1 (Or.inr (slot_ne (t := .int) (t' := .int) (Or.inl (own_word hw 108 rfl)) (Or.inl (own_word hw 106 rfl)) (by decide) (by decide) (by decide)))
  have F6 := Frst.same W1
  have F7 := Frk.other W1 (Or.inr (slot_ne (t := .int) (t' := .int) (Or.inl (own_word hw 104 rfl)) (Or.inl (own_word hw 106 rfl)) (by decide) (by decide) (by decide)))
  have F8 := Fral.other W1 (Or.inr (slot_ne (t := (.object "com/example/mild_horn/mildhorn/datalog/Relation$Index")) (t' := .int) (Or.inr (own_word hw 74 rfl)) (Or.inl (own_word hw 106 rfl)) (by decide) (by decide) (by decide)))
  have F9 := Frin.other W1 (Or.inr (slot_ne (t := (.object "java/util/List")) (t' := .int) (Or.inr (own_word hw 36 rfl)) (Or.inl (own_word hw 106 rfl)) (by decide) (by decide) (by decide)))
  have F10 := Eix.wr W1
  have F11 := Fit.other W1 (Or.inl (Ne.symm (D.ne 0 1 (by decide) rfl rfl)))
  have F12 := Fip.other W1 (Or.inl (Ne.symm (D.ne 0 1 (by decide) rfl rfl)))
  have F13 := Fib.other W1 (Or.inl (Ne.symm (D.ne 0 1 (by decide) rfl rfl)))
  have F14 := Fin.other W1 (Or.inl (Ne.symm (D.ne 0 1 (by decide) rfl rfl)))
  have F15 := Fil.other W1 (Or.inl (Ne.symm (D.ne 0 1 (by decide) rfl rfl)))
  have F16 := Eal.wr W1
  have F17 := Flm.other W1 (Or.inl (Ne.symm (D.ne 0 2 (by decide) rfl rfl)))
  have F18 := Fle.other W1 (Or.inl (Ne.symm (D.ne 0 2 (by decide) rfl rfl)))
  have F19 := Fls.other W1 (Or.inl (Ne.symm (D.ne 0 2 (by decide) rfl rfl)))
  have F20 := Aed.other W1 (Ne.symm (D.ne 0 3 (by decide) rfl rfl))
  have F21 := Avl.other W1 (Ne.symm (D.ne 0 4 (by decide) rfl rfl))
  have F22 := Abk.other W1 (Ne.symm (D.ne 0 5 (by decide) rfl rfl))
  have F23 := Anx.other W1 (Ne.symm (D.ne 0 6 (by decide) rfl rfl))
  have F24 := Aps.other W1 (Ne.symm (D.ne 0 7 (by decide) rfl rfl))
  have Kp25 := (Keep.refl h0 [r]).wr W1 (Or.inl (by simp))
  refine o_blk (pc' := 10) (st' := [(.ref r), (.ref r)]) (ls' := #[.val (.ref r)]) b12_8_10 rfl ?_
  refine o_getF (host := "") (pc' := 13) (v := (.int (Int32.ofNat n))) (Or.inl (own_word hw 107 rfl)) F5 d12_10 rfl ?_
  refine o_putF (host := "") (ty := .int) (pc' := 16) (Or.inl (own_word hw 103 rfl)) F7 F2 (Or.inl (own_word hw 104 rfl)) (own_word hw 2 rfl) (by decide) rfl rfl (D.new 0 rfl) d12_13 rfl ?_
  intro h26 W26
  have F27 := F2.wr W26
  have F28 := F3.other W26 (Or.inr (slot_ne (t := .int) (t' := .int) (Or.inr (own_word hw 38 rfl)) (Or.inl (own_word hw 104 rfl)) (by decide) (by decide) (by decide)))
  have F29 := F4.other W26 (Or.inr (slot_ne (t := (.array .int)) (t' := .int) (Or.inl (own_word hw 44 rfl)) (Or.inl (own_word hw 104 rfl)) (by decide) (by decide) (by decide)))
  have F30 := F5.other W26 (Or.inr (slot_ne (t := .int) (t' := .int) (Or.inl (own_word hw 108 rfl)) (Or.inl (own_word hw 104 rfl)) (by decide) (by decide) (by decide)))
  have F31 := F6.other W26 (Or.inr (slot_ne (t := .int) (t' := .int) (Or.inl (own_word hw 106 rfl)) (Or.inl (own_word hw 104 rfl)) (by decide) (by decide) (by decide)))
  have F32 := F7.same W26
  have F33 := F8.other W26 (Or.inr (slot_ne (t := (.object "com/example/mild_horn/mildhorn/datalog/Relation$Index")) (t' := .int) (Or.inr (own_word hw 74 rfl)) (Or.inl (own_word hw 104 rfl)) (by decide) (by decide) (by decide)))
  have F34 := F9.other W26 (Or.inr (slot_ne (t := (.object "java/util/List")) (t' := .int) (Or.inr (own_word hw 36 rfl)) (Or.inl (own_word hw 104 rfl)) (by decide) (by decide) (by decide)))
  have F35 := F10.wr W26
  have F36 := F11.other W26 (Or.inl (Ne.symm (D.ne 0 1 (by decide) rfl rfl)))
  have F37 := F12.other W26 (Or.inl (Ne.symm (D.ne 0 1 (by decide) rfl rfl)))
  have F38 := F13.other W26 (Or.inl (Ne.symm (D.ne 0 1 (by decide) rfl rfl)))
  have F39 := F14.other W26 (Or.inl (Ne.symm (D.ne 0 1 (by decide) rfl rfl)))
  have F40 := F15.other W26 (Or.inl (Ne.symm (D.ne 0 1 (by decide) rfl rfl)))
  have F41 := F16.wr W26
  have F42 := F17.other W26 (Or.inl (Ne.symm (D.ne 0 2 (by decide) rfl rfl)))
  have F43 := F18.other W26 (Or.inl (Ne.symm (D.ne 0 2 (by decide) rfl rfl)))
  have F44 := F19.other W26 (Or.inl (Ne.symm (D.ne 0 2 (by decide) rfl rfl)))
  have F45 := F20.other W26 (Ne.symm (D.ne 0 3 (by decide) rfl rfl))
  have F46 := F21.other W26 (Ne.symm (D.ne 0 4 (by decide) rfl rfl))
  have F47 := F22.other W26 (Ne.symm (D.ne 0 5 (by decide) rfl rfl))
  have F48 := F23.other W26 (Ne.symm (D.ne 0 6 (by decide) rfl rfl))
  have F49 := F24.other W26 (Ne.symm (D.ne 0 7 (by decide) rfl rfl))
  have Kp50 := Kp25.wr W26 (Or.inl (by simp))
  exact o_retV d12_16 (by decide) (by decide) rfl ⟨rfl, ⟨_, _, _, _, _, _, _, _, ⟨F27, F28, F29, F30, F31, F32, F33, F34⟩, ⟨F35, F36, F37, F38, F39, F40⟩, ⟨F41, F42, F43, F44⟩, F45, F46, F47, F48, F49, Lv, Lb, Ln, Hb, Hn⟩, Kp50⟩
set_option maxRecDepth 65536 in
set_option maxHeartbeats 40000000 in
theorem rm_add (l : Launch) (Z : State) (a0 : Array Value) (hw : ∀ d ∈ tables_1, d.before a0 Z = true)  (h0 : Heap) (hE0 : Ext Z.heap h0) (r ix al ed vals bk nx ps : Addr) (D : RN Z [r, ix, al, ed, vals, bk, nx, ps]) (n : Nat) (st kn : Int32) (hn3 : n ≤ 8) (HI : RI Z h0 r ix al ed vals bk nx ps n st kn) (ka : Addr) (kk : ClassId) (x : Int32) (A_ka : OArr Z h0 ka kk .int ([x].map Value.int)) (L_ka : [x].length = 1) (ne_ka_r : ka ≠ r) (ne_ka_ix : ka ≠ ix) (ne_ka_al : ka ≠ al) (ne_ka_ed : ka ≠ ed) (ne_ka_vals : ka ≠ vals) (ne_ka_bk : ka ≠ bk) (ne_ka_nx : ka ≠ nx) (ne_ka_ps : ka ≠ ps) :
    OCtr l Z (⟨"com/example/mild_horn/mildhorn/datalog/Relation", "add", "([I)Z"⟩ : MethodName) prog_24_method_8_code 5 (some .boolean) ({ frames := 3, cells := 1, slots := 4, locals := 47 } : Room) #[(.ref r), (.ref ka)] h0 (fun v h => ∃ d : Nat, d ≤ 1 ∧ v = some (.int (Int32.ofNat d)) ∧ RI Z h r ix al ed vals bk nx ps (n + d) st kn ∧ Keep h0 h [r, ix, vals, bk, nx]) := by
  obtain ⟨ke, kv, kb, kn2, kp, vl, bl, nl, ⟨Er, Fra, Frv, Frs, Frst, Frk, Fral, Frin⟩, ⟨Eix, Fit, Fip, Fib, Fin, Fil⟩, ⟨Eal, Flm, Fle, Fls⟩, Aed, Avl, Abk, Anx, Aps, Lv, Lb, Ln, Hb, Hn⟩ := HI
  refine o_body (ls0 := #[.val (.ref r), .val (.ref ka), .unset, .unset, .unset]) (plainFor_of_name pn_5) hE0 (fun m => by first | (simp [entryFrame, mkF, argsToLocals, Value.category]; done) | rfl) ?_
  intro pG eG sG mG bG meG cG
  refine o_blk (pc' := 2) (st' := [(.ref r), (.ref r)]) (ls' := #[.val (.ref r), .val (.ref ka), .unset, .unset, .unset]) b16_0_2 rfl ?_
  refine o_getF (host := "") (pc' := 5) (v := (.ref ix)) (Or.inl (own_word hw 73 rfl)) Fral d16_2 rfl ?_
  refine o_blk (pc' := 7) (st' := [(.ref r), (.ref ka), (.ref ix), (.ref r)]) (ls' := #[.val (.ref r), .val (.ref ka), .unset, .unset, .unset]) b16_5_7 rfl ?_
  refine o_getF (host := "") (pc' := 10) (v := (.int (Int32.ofNat n))) (Or.inl (own_word hw 107 rfl)) Frs d16_7 rfl ?_
  refine o_callV (W := 0) (argsL := [(.ref ix), (.ref ka), (.int (Int32.ofNat n))]) (rest := []) (pc' := 13) (own_word hw 129 rfl) (own_word hw 130 rfl) (own_word hw 132 rfl) (own_word hw 132 rfl) (own_word hw 131 rfl) (own_word hw 133 rfl) (own_word hw 3 rfl) (by decide) Er (fun hE => rm_fi l Z a0 hw h0 hE r ix vals ps kv kp vl bk nx ka kb kn2 kk bl nl x n (by omega) Hb Hn Er Fra Frv Avl Lv Eix Fit Fip Aps (rfl : [(0 : Int32)].length = 1) Fib Fin Abk Lb Anx Ln A_ka L_ka) d16_10 pd_11 rfl rfl rfl (Nat.le_of_eq rfl) (by decide) (by decide) (by decide) (by decide) rfl ?_
  rintro _ _ ⟨zf, rfl, rfl⟩ hs1
  refine o_blk (pc' := 14) (st' := [(.int (-1 : Int32)), (.int zf)]) (ls' := #[.val (.ref r), .val (.ref ka), .unset, .unset, .unset]) b16_13_14 rfl ?_
  refine o_ic (pc' := 19) (pc'' := 17) d16_14 (by decide) (by decide) rfl (fun (hc14_2 : zf = (-1 : Int32)) => ?_) (fun (hc14_2 : ¬ zf = (-1 : Int32)) => ?_)
  ·
    refine o_blk (pc' := 20) (st' := [(.ref r)]) (ls' := #[.val (.ref r), .val (.ref ka), .unset, .unset, .unset]) b16_19_20 rfl ?_
    refine o_getF (host := "") (pc' := 23) (v := (.int (Int32.ofNat n))) (Or.inl (own_word hw 107 rfl)) Frs d16_20 rfl ?_
    refine o_blk (pc' := 26) (st' := [(.ref r), (.int ((Int32.ofNat n) + (1 : Int32)))]) (ls' := #[.val (.ref r), .val (.ref ka), .unset, .unset, .unset]) b16_23_26 rfl ?_
    refine o_getF (host := "") (pc' := 29) (v := (.int (1 : Int32))) (Or.inl (own_word hw 37 rfl)) Fra d16_26 rfl ?_
    refine o_blk (pc' := 31) (st' := [(.ref r), (.int (((Int32.ofNat n) + (1 : Int32)) * (1 : Int32)))]) (ls' := #[.val (.ref r), .val (.ref ka), .unset, .unset, .unset]) b16_29_31 rfl ?_
    refine o_getF (host := "") (pc' := 34) (v := (.ref vals)) (Or.inl (own_word hw 43 rfl)) Frv d16_31 rfl ?_
    refine o_len (pc' := 35) Avl d16_34 rfl ?_
    rw [List.length_map, Lv]
    rw [show (Int32.ofNat n + (1 : Int32)) * (1 : Int32) = Int32.ofNat (n + 1) from by rw [Int32.mul_one]; exact own_addn n 1]
    refine o_icY (pc' := 56) d16_35 (by decide) (by decide) (fun q => absurd ((own_ltn (i := 16) (j := n + 1) (by omega) (by omega)).mp q) (by omega) : ¬ (16 : Int32) < (Int32.ofNat (n + 1))) ?_
    refine o_blk (pc' := 59) (st' := [(.ref r), (.int (0 : Int32)), (.ref ka)]) (ls' := #[.val (.ref r), .val (.ref ka), .unset, .unset, .unset]) b16_56_59 rfl ?_
    refine o_getF (host := "") (pc' := 62) (v := (.ref vals)) (Or.inl (own_word hw 43 rfl)) Frv d16_59 rfl ?_
    refine o_blk (pc' := 63) (st' := [(.ref r), (.ref vals), (.int (0 : Int32)), (.ref ka)]) (ls' := #[.val (.ref r), .val (.ref ka), .unset, .unset, .unset]) b16_62_63 rfl ?_
    refine o_getF (host := "") (pc' := 66) (v := (.int (Int32.ofNat n))) (Or.inl (own_word hw 107 rfl)) Frs d16_63 rfl ?_
    refine o_blk (pc' := 67) (st' := [(.ref r), (.int (Int32.ofNat n)), (.ref vals), (.int (0 : Int32)), (.ref ka)]) (ls' := #[.val (.ref r), .val (.ref ka), .unset, .unset, .unset]) b16_66_67 rfl ?_
    refine o_getF (host := "") (pc' := 70) (v := (.int (1 : Int32))) (Or.inl (own_word hw 37 rfl)) Fra d16_67 rfl ?_
    refine o_blk (pc' := 72) (st' := [(.ref r), (.int ((Int32.ofNat n) * (1 : Int32))), (.ref vals), (.int (0 : Int32)), (.ref ka)]) (ls' := #[.val (.ref r), .val (.ref ka), .unset, .unset, .unset]) b16_70_72 rfl ?_
    refine o_getF (host := "") (pc' := 75) (v := (.int (1 : Int32))) (Or.inl (own_word hw 37 rfl)) Fra d16_72 rfl ?_
    rw [Int32.mul_one (Int32.ofNat n)]
    refine o_cpyI (i := 0) (j := n) (n := 1) (W := 0) (pc' := 78) (own_word hw 142 rfl) (own_word hw 145 rfl) (own_word hw 143 rfl) (own_word hw 144 rfl) A_ka Avl rfl rfl rfl (by rw [L_ka]; omega) (by rw [Lv]; omega) (D.new 4 rfl) d16_75 rfl (Nat.le_of_eq rfl) (by decide) (by decide) rfl ?_
    intro h3 K3 F3
    have F4 := Er.keep K3
    have F5 := Fra.keep K3 (ninS (D.ne 0 4 (by decide) rfl rfl) nin0)
    have F6 := Frv.keep K3 (ninS (D.ne 0 4 (by decide) rfl rfl) nin0)
    have F7 := Frs.keep K3 (ninS (D.ne 0 4 (by decide) rfl rfl) nin0)
    have F8 := Frst.keep K3 (ninS (D.ne 0 4 (by decide) rfl rfl) nin0)
    have F9 := Frk.keep K3 (ninS (D.ne 0 4 (by decide) rfl rfl) nin0)
    have F10 := Fral.keep K3 (ninS (D.ne 0 4 (by decide) rfl rfl) nin0)
    have F11 := Frin.keep K3 (ninS (D.ne 0 4 (by decide) rfl rfl) nin0)
    have F12 := Eix.keep K3
    have F13 := Fit.keep K3 (ninS (D.ne 1 4 (by decide) rfl rfl) nin0)
    have F14 := Fip.keep K3 (ninS (D.ne 1 4 (by decide) rfl rfl) nin0)
    have F15 := Fib.keep K3 (ninS (D.ne 1 4 (by decide) rfl rfl) nin0)
    have F16 := Fin.keep K3 (ninS (D.ne 1 4 (by decide) rfl rfl) nin0)
    have F17 := Fil.keep K3 (ninS (D.ne 1 4 (by decide) rfl rfl) nin0)
    have F18 := Eal.keep K3
    have F19 := Flm.keep K3 (ninS (D.ne 2 4 (by decide) rfl rfl) nin0)
    have F20 := Fle.keep K3 (ninS (D.ne 2 4 (by decide) rfl rfl) nin0)
    have F21 := Fls.keep K3 (ninS (D.ne 2 4 (by decide) rfl rfl) nin0)
    have F22 := Aed.keep K3 (ninS (D.ne 3 4 (by decide) rfl rfl) nin0)
    have F24 := Abk.keep K3 (ninS (Ne.symm (D.ne 4 5 (by decide) rfl rfl)) nin0)
    have F25 := Anx.keep K3 (ninS (Ne.symm (D.ne 4 6 (by decide) rfl rfl)) nin0)
    have F26 := Aps.keep K3 (ninS (Ne.symm (D.ne 4 7 (by decide) rfl rfl)) nin0)
    have F27 := A_ka.keep K3 (ninS ne_ka_vals nin0)
    have F28 := (Keep.refl h0 [r, ix, vals, bk, nx]).trans K3 (allS (Or.inl (by simp)) all0)
    have hl3 : (vl.take n ++ ([x].drop 0).take 1 ++ vl.drop (n + 1)).length = 16 := by simp [Lv, L_ka]; omega
    refine o_blk (pc' := 80) (st' := [(.ref r), (.ref r)]) (ls' := #[.val (.ref r), .val (.ref ka), .unset, .unset, .unset]) b16_78_80 rfl ?_
    refine o_getF (host := "") (pc' := 83) (v := (.int (Int32.ofNat n))) (Or.inl (own_word hw 107 rfl)) F7 d16_80 rfl ?_
    refine o_blk (pc' := 86) (st' := [(.int ((Int32.ofNat n) + (1 : Int32))), (.ref r), (.int (Int32.ofNat n))]) (ls' := #[.val (.ref r), .val (.ref ka), .unset, .unset, .unset]) b16_83_86 rfl ?_
    rw [show Int32.ofNat n + (1 : Int32) = Int32.ofNat (n + 1) from own_addn n 1]
    refine o_putF (host := "") (ty := .int) (pc' := 89) (Or.inl (own_word hw 107 rfl)) F7 F4 (Or.inl (own_word hw 108 rfl)) (own_word hw 2 rfl) (by decide) rfl rfl (D.new 0 rfl) d16_86 rfl ?_
    intro h29 W29
    have F30 := F4.wr W29
    have F31 := F5.other W29 (Or.inr (slot_ne (t := .int) (t' := .int) (Or.inr (own_word hw 38 rfl)) (Or.inl (own_word hw 108 rfl)) (by decide) (by decide) (by decide)))
    have F32 := F6.other W29 (Or.inr (slot_ne (t := (.array .int)) (t' := .int) (Or.inl (own_word hw 44 rfl)) (Or.inl (own_word hw 108 rfl)) (by decide) (by decide) (by decide)))
    have F33 := F7.same W29
    have F34 := F8.other W29 (Or.inr (slot_ne (t := .int) (t' := .int) (Or.inl (own_word hw 106 rfl)) (Or.inl (own_word hw 108 rfl)) (by decide) (by decide) (by decide)))
    have F35 := F9.other W29 (Or.inr (slot_ne (t := .int) (t' := .int) (Or.inl (own_word hw 104 rfl)) (Or.inl (own_word hw 108 rfl)) (by decide) (by decide) (by decide)))
    have F36 := F10.other W29 (Or.inr (slot_ne (t := (.object "com/example/mild_horn/mildhorn/datalog/Relation$Index")) (t' := .int) (Or.inr (own_word hw 74 rfl)) (Or.inl (own_word hw 108 rfl)) (by decide) (by decide) (by decide)))
    have F37 := F11.other W29 (Or.inr (slot_ne (t := (.object "java/util/List")) (t' := .int) (Or.inr (own_word hw 36 rfl)) (Or.inl (own_word hw 108 rfl)) (by decide) (by decide) (by decide)))
    have F38 := F12.wr W29
    have F39 := F13.other W29 (Or.inl (Ne.symm (D.ne 0 1 (by decide) rfl rfl)))
    have F40 := F14.other W29 (Or.inl (Ne.symm (D.ne 0 1 (by decide) rfl rfl)))
    have F41 := F15.other W29 (Or.inl (Ne.symm (D.ne 0 1 (by decide) rfl rfl)))
    have F42 := F16.other W29 (Or.inl (Ne.symm (D.ne 0 1 (by decide) rfl rfl)))
    have F43 := F17.other W29 (Or.inl (Ne.symm (D.ne 0 1 (by decide) rfl rfl)))
    have F44 := F18.wr W29
    have F45 := F19.other W29 (Or.inl (Ne.symm (D.ne 0 2 (by decide) rfl rfl)))
    have F46 := F20.other W29 (Or.inl (Ne.symm (D.ne 0 2 (by decide) rfl rfl)))
    have F47 := F21.other W29 (Or.inl (Ne.symm (D.ne 0 2 (by decide) rfl rfl)))
    have F48 := F22.other W29 (Ne.symm (D.ne 0 3 (by decide) rfl rfl))
    have F49 := F24.other W29 (Ne.symm (D.ne 0 5 (by decide) rfl rfl))
    have F50 := F25.other W29 (Ne.symm (D.ne 0 6 (by decide) rfl rfl))
    have F51 := F26.other W29 (Ne.symm (D.ne 0 7 (by decide) rfl rfl))
    have F52 := F27.other W29 ne_ka_r
    have Kp53 := F28.wr W29 (Or.inl (by simp))
    have F54 := F3.other W29 (Ne.symm (D.ne 0 4 (by decide) rfl rfl))
    refine o_blk (pc' := 90) (st' := []) (ls' := #[.val (.ref r), .val (.ref ka), .val (.int (Int32.ofNat n)), .unset, .unset]) b16_89_90 rfl ?_
    refine o_blk (pc' := 91) (st' := [(.ref r)]) (ls' := #[.val (.ref r), .val (.ref ka), .val (.int (Int32.ofNat n)), .unset, .unset]) b16_90_91 rfl ?_
    refine o_getF (host := "") (pc' := 94) (v := (.ref al)) (Or.inl (own_word hw 35 rfl)) F37 d16_91 rfl ?_
    refine o_callF (W := 0) (argsL := []) (rest := []) (pc' := 99) (own_word hw 146 rfl) (own_word hw 147 rfl) (own_word hw 148 rfl) rfl (own_word hw 149 rfl) (own_word hw 150 rfl) (own_word hw 151 rfl) (own_word hw 152 rfl) (own_word hw 82 rfl) (own_word hw 153 rfl) (own_word hw 12 rfl) (by decide) F44 (fun hE => rm_it l Z a0 hw h29 hE al F44 F45) d16_94 pd_12 rfl rfl rfl (Nat.le_of_eq rfl) (by decide) (by decide) (by decide) (by decide) rfl ?_
    rintro _ hit ⟨it, rfl, Iit, git, nit, Kit⟩ hs55
    have F56 := F30.keep Kit
    have F57 := F31.keep Kit nin0
    have F58 := F32.keep Kit nin0
    have F59 := F33.keep Kit nin0
    have F60 := F34.keep Kit nin0
    have F61 := F35.keep Kit nin0
    have F62 := F36.keep Kit nin0
    have F63 := F37.keep Kit nin0
    have F64 := F38.keep Kit
    have F65 := F39.keep Kit nin0
    have F66 := F40.keep Kit nin0
    have F67 := F41.keep Kit nin0
    have F68 := F42.keep Kit nin0
    have F69 := F43.keep Kit nin0
    have F70 := F44.keep Kit
    have F71 := F45.keep Kit nin0
    have F72 := F46.keep Kit nin0
    have F73 := F47.keep Kit nin0
    have F74 := F48.keep Kit nin0
    have F75 := F49.keep Kit nin0
    have F76 := F50.keep Kit nin0
    have F77 := F51.keep Kit nin0
    have F78 := F52.keep Kit nin0
    have F79 := Kp53.trans Kit all0
    have F80 := F54.keep Kit nin0
    have ne_r_it : r ≠ it := Nat.ne_of_lt (Nat.lt_of_lt_of_le F37.lt git)
    have ne_ix_it : ix ≠ it := Nat.ne_of_lt (Nat.lt_of_lt_of_le F43.lt git)
    have ne_al_it : al ≠ it := Nat.ne_of_lt (Nat.lt_of_lt_of_le F47.lt git)
    have ne_ed_it : ed ≠ it := Nat.ne_of_lt (Nat.lt_of_lt_of_le F48.lt git)
    have ne_bk_it : bk ≠ it := Nat.ne_of_lt (Nat.lt_of_lt_of_le F49.lt git)
    have ne_nx_it : nx ≠ it := Nat.ne_of_lt (Nat.lt_of_lt_of_le F50.lt git)
    have ne_ps_it : ps ≠ it := Nat.ne_of_lt (Nat.lt_of_lt_of_le F51.lt git)
    have ne_ka_it : ka ≠ it := Nat.ne_of_lt (Nat.lt_of_lt_of_le F52.lt git)
    have ne_vals_it : vals ≠ it := Nat.ne_of_lt (Nat.lt_of_lt_of_le F54.lt git)
    have ol_it : h0.size ≤ it := Nat.le_trans Kp53.1 git
    refine o_blk (pc' := 100) (st' := []) (ls' := #[.val (.ref r), .val (.ref ka), .val (.int (Int32.ofNat n)), .val (.ref it), .unset]) b16_99_100 rfl ?_
    refine o_blk (pc' := 101) (st' := [(.ref it)]) (ls' := #[.val (.ref r), .val (.ref ka), .val (.int (Int32.ofNat n)), .val (.ref it), .unset]) b16_100_101 rfl ?_
    refine o_callF (W := 0) (argsL := []) (rest := []) (pc' := 106) (own_word hw 169 rfl) (own_word hw 170 rfl) (own_word hw 171 rfl) rfl (own_word hw 172 rfl) (own_word hw 173 rfl) (own_word hw 174 rfl) (own_word hw 175 rfl) (own_word hw 176 rfl) (own_word hw 177 rfl) (own_word hw 156 rfl) (by decide) Iit.1 (fun hE => rm_hn0 l Z a0 hw hit hE it al Iit.1 Iit.2.1 Iit.2.2.2.1 Iit.2.2.2.2 F70 F73 F71) d16_101 pd_13 rfl rfl rfl (Nat.le_of_eq rfl) (by decide) (by decide) (by decide) (by decide) rfl ?_
    rintro _ _ ⟨rfl, rfl⟩ hs81
    refine o_ifN (pc' := 109) d16_106 rfl (by decide : ¬ (1 : Int32) = 0) ?_
    refine o_blk (pc' := 110) (st' := [(.ref it)]) (ls' := #[.val (.ref r), .val (.ref ka), .val (.int (Int32.ofNat n)), .val (.ref it), .unset]) b16_109_110 rfl ?_
    refine o_callF (W := 0) (argsL := []) (rest := []) (pc' := 115) (own_word hw 181 rfl) (own_word hw 182 rfl) (own_word hw 183 rfl) rfl (own_word hw 184 rfl) (own_word hw 185 rfl) (own_word hw 186 rfl) (own_word hw 187 rfl) (own_word hw 176 rfl) (own_word hw 188 rfl) (own_word hw 156 rfl) (by decide) Iit.1 (fun hE => rm_nx l Z a0 hw hit hE it al ed ix ke Iit.1 Iit.2.1 Iit.2.2.1 Iit.2.2.2.1 Iit.2.2.2.2 F70 F73 F71 F72 F74 nit ne_al_it ne_ed_it) d16_110 pd_14 rfl rfl rfl (Nat.le_of_eq rfl) (by decide) (by decide) (by decide) (by decide) rfl ?_
    rintro _ hnn ⟨rfl, In, Kn⟩ hs82
    have F83 := F56.keep Kn
    have F84 := F57.keep Kn (ninS ne_r_it nin0)
    have F85 := F58.keep Kn (ninS ne_r_it nin0)
    have F86 := F59.keep Kn (ninS ne_r_it nin0)
    have F87 := F60.keep Kn (ninS ne_r_it nin0)
    have F88 := F61.keep Kn (ninS ne_r_it nin0)
    have F89 := F62.keep Kn (ninS ne_r_it nin0)
    have F90 := F63.keep Kn (ninS ne_r_it nin0)
    have F91 := F64.keep Kn
    have F92 := F65.keep Kn (ninS ne_ix_it nin0)
    have F93 := F66.keep Kn (ninS ne_ix_it nin0)
    have F94 := F67.keep Kn (ninS ne_ix_it nin0)
    have F95 := F68.keep Kn (ninS ne_ix_it nin0)
    have F96 := F69.keep Kn (ninS ne_ix_it nin0)
    have F97 := F70.keep Kn
    have F98 := F71.keep Kn (ninS ne_al_it nin0)
    have F99 := F72.keep Kn (ninS ne_al_it nin0)
    have F100 := F73.keep Kn (ninS ne_al_it nin0)
    have F101 := F74.keep Kn (ninS ne_ed_it nin0)
    have F102 := F75.keep Kn (ninS ne_bk_it nin0)
    have F103 := F76.keep Kn (ninS ne_nx_it nin0)
    have F104 := F77.keep Kn (ninS ne_ps_it nin0)
    have F105 := F78.keep Kn (ninS ne_ka_it nin0)
    have F106 := F79.trans Kn (allS (Or.inr ol_it) all0)
    have F107 := F80.keep Kn (ninS ne_vals_it nin0)
    have F108 := Iit.1.keep Kn
    refine o_cast (pc' := 118) (own_word hw 45 rfl) (Ins.self F91) d16_115 rfl ?_
    refine o_blk (pc' := 120) (st' := []) (ls' := #[.val (.ref r), .val (.ref ka), .val (.int (Int32.ofNat n)), .val (.ref it), .val (.ref ix)]) b16_118_120 rfl ?_
    refine o_blk (pc' := 123) (st' := [(.int (Int32.ofNat n)), (.ref ix)]) (ls' := #[.val (.ref r), .val (.ref ka), .val (.int (Int32.ofNat n)), .val (.ref it), .val (.ref ix)]) b16_120_123 rfl ?_
    refine o_callPR (W := 0) (argsL := [(.int (Int32.ofNat n))]) (rest := []) (pc' := 126) (own_word hw 196 rfl) (own_word hw 197 rfl) (own_word hw 198 rfl) (own_word hw 46 rfl) (own_word hw 199 rfl) (own_word hw 47 rfl) (by decide) F91 (fun hE => rm_lk l Z a0 hw hnn hE r ix vals ps kv kp (vl.take n ++ ([x].drop 0).take 1 ++ vl.drop (n + 1)) bk nx kb kn2 bl nl n (by omega) Hb Hn F83 F84 F85 F107 hl3 F91 F92 F93 F104 (rfl : [(0 : Int32)].length = 1) F94 F95 F96 F102 Lb F103 Ln (D.new 1 rfl) (D.new 5 rfl) (D.new 6 rfl) (D.ne 0 1 (by decide) rfl rfl) (D.ne 0 4 (by decide) rfl rfl) (D.ne 0 5 (by decide) rfl rfl) (D.ne 0 6 (by decide) rfl rfl) (D.ne 0 7 (by decide) rfl rfl) (D.ne 1 4 (by decide) rfl rfl) (D.ne 1 5 (by decide) rfl rfl) (D.ne 1 6 (by decide) rfl rfl) (D.ne 1 7 (by decide) rfl rfl) (D.ne 4 5 (by decide) rfl rfl) (D.ne 4 6 (by decide) rfl rfl) (D.ne 4 7 (by decide) rfl rfl) (D.ne 5 6 (by decide) rfl rfl) (D.ne 5 7 (by decide) rfl rfl) (D.ne 6 7 (by decide) rfl rfl)) d16_123 pd_3 rfl rfl rfl (Nat.le_of_eq rfl) (by decide) (by decide) (by decide) (by decide) rfl ?_
    rintro _ hl0 ⟨rfl, bl2, nl2, Il, Bl, Xl, Lb2, Ln2, Hb2, Hn2, Kl⟩ hs113
    have F114 := F83.keep Kl
    have F115 := F84.keep Kl (ninS (D.ne 0 1 (by decide) rfl rfl) (ninS (D.ne 0 5 (by decide) rfl rfl) (ninS (D.ne 0 6 (by decide) rfl rfl) nin0)))
    have F116 := F85.keep Kl (ninS (D.ne 0 1 (by decide) rfl rfl) (ninS (D.ne 0 5 (by decide) rfl rfl) (ninS (D.ne 0 6 (by decide) rfl rfl) nin0)))
    have F117 := F86.keep Kl (ninS (D.ne 0 1 (by decide) rfl rfl) (ninS (D.ne 0 5 (by decide) rfl rfl) (ninS (D.ne 0 6 (by decide) rfl rfl) nin0)))
    have F118 := F87.keep Kl (ninS (D.ne 0 1 (by decide) rfl rfl) (ninS (D.ne 0 5 (by decide) rfl rfl) (ninS (D.ne 0 6 (by decide) rfl rfl) nin0)))
    have F119 := F88.keep Kl (ninS (D.ne 0 1 (by decide) rfl rfl) (ninS (D.ne 0 5 (by decide) rfl rfl) (ninS (D.ne 0 6 (by decide) rfl rfl) nin0)))
    have F120 := F89.keep Kl (ninS (D.ne 0 1 (by decide) rfl rfl) (ninS (D.ne 0 5 (by decide) rfl rfl) (ninS (D.ne 0 6 (by decide) rfl rfl) nin0)))
    have F121 := F90.keep Kl (ninS (D.ne 0 1 (by decide) rfl rfl) (ninS (D.ne 0 5 (by decide) rfl rfl) (ninS (D.ne 0 6 (by decide) rfl rfl) nin0)))
    have F122 := F91.keep Kl
    have F128 := F97.keep Kl
    have F129 := F98.keep Kl (ninS (Ne.symm (D.ne 1 2 (by decide) rfl rfl)) (ninS (D.ne 2 5 (by decide) rfl rfl) (ninS (D.ne 2 6 (by decide) rfl rfl) nin0)))
    have F130 := F99.keep Kl (ninS (Ne.symm (D.ne 1 2 (by decide) rfl rfl)) (ninS (D.ne 2 5 (by decide) rfl rfl) (ninS (D.ne 2 6 (by decide) rfl rfl) nin0)))
    have F131 := F100.keep Kl (ninS (Ne.symm (D.ne 1 2 (by decide) rfl rfl)) (ninS (D.ne 2 5 (by decide) rfl rfl) (ninS (D.ne 2 6 (by decide) rfl rfl) nin0)))
    have F132 := F101.keep Kl (ninS (Ne.symm (D.ne 1 3 (by decide) rfl rfl)) (ninS (D.ne 3 5 (by decide) rfl rfl) (ninS (D.ne 3 6 (by decide) rfl rfl) nin0)))
    have F135 := F104.keep Kl (ninS (Ne.symm (D.ne 1 7 (by decide) rfl rfl)) (ninS (Ne.symm (D.ne 5 7 (by decide) rfl rfl)) (ninS (Ne.symm (D.ne 6 7 (by decide) rfl rfl)) nin0)))
    have F136 := F105.keep Kl (ninS ne_ka_ix (ninS ne_ka_bk (ninS ne_ka_nx nin0)))
    have F137 := F106.trans Kl (allS (Or.inl (by simp)) (allS (Or.inl (by simp)) (allS (Or.inl (by simp)) all0)))
    have F138 := F107.keep Kl (ninS (Ne.symm (D.ne 1 4 (by decide) rfl rfl)) (ninS (D.ne 4 5 (by decide) rfl rfl) (ninS (D.ne 4 6 (by decide) rfl rfl) nin0)))
    have F139 := In.1.keep Kl
    have F140 := In.2.1.keep Kl (ninS (Ne.symm ne_ix_it) (ninS (Ne.symm ne_bk_it) (ninS (Ne.symm ne_nx_it) nin0)))
    have F141 := In.2.2.1.keep Kl (ninS (Ne.symm ne_ix_it) (ninS (Ne.symm ne_bk_it) (ninS (Ne.symm ne_nx_it) nin0)))
    have F142 := In.2.2.2.1.keep Kl (ninS (Ne.symm ne_ix_it) (ninS (Ne.symm ne_bk_it) (ninS (Ne.symm ne_nx_it) nin0)))
    have F143 := In.2.2.2.2.keep Kl (ninS (Ne.symm ne_ix_it) (ninS (Ne.symm ne_bk_it) (ninS (Ne.symm ne_nx_it) nin0)))
    refine o_goto (pc' := 100) d16_126 (by decide) (by decide) ?_
    refine o_blk (pc' := 101) (st' := [(.ref it)]) (ls' := #[.val (.ref r), .val (.ref ka), .val (.int (Int32.ofNat n)), .val (.ref it), .val (.ref ix)]) b16_100_101 rfl ?_
    refine o_callF (W := 0) (argsL := []) (rest := []) (pc' := 106) (own_word hw 169 rfl) (own_word hw 170 rfl) (own_word hw 171 rfl) rfl (own_word hw 172 rfl) (own_word hw 173 rfl) (own_word hw 174 rfl) (own_word hw 175 rfl) (own_word hw 176 rfl) (own_word hw 177 rfl) (own_word hw 156 rfl) (by decide) F139 (fun hE => rm_hn1 l Z a0 hw hl0 hE it al F139 F140 F142 F143 F128 F131 F129) d16_101 pd_13 rfl rfl rfl (Nat.le_of_eq rfl) (by decide) (by decide) (by decide) (by decide) rfl ?_
    rintro _ _ ⟨rfl, rfl⟩ hs144
    refine o_ifY (pc' := 129) d16_106 (by decide) (by decide) (by decide : (0 : Int32) = 0) ?_
    refine o_blk (pc' := 130) (st' := [(.int (1 : Int32))]) (ls' := #[.val (.ref r), .val (.ref ka), .val (.int (Int32.ofNat n)), .val (.ref it), .val (.ref ix)]) b16_129_130 rfl ?_
    exact o_retZ (w := 0) d16_130 (by decide) (by decide) rfl (by decide) ⟨1, by decide, rfl, ⟨_, _, _, _, _, _, _, _, ⟨F114, F115, F116, F117, F118, F119, F120, F121⟩, ⟨Il.1, Il.2.1, Il.2.2.1, Il.2.2.2.1, Il.2.2.2.2.1, Il.2.2.2.2.2⟩, ⟨F128, F129, F130, F131⟩, F132, F138, Bl, Xl, F135, hl3, Lb2, Ln2, Hb2, Hn2⟩, F137⟩
  ·
    refine o_blk (pc' := 18) (st' := [(.int (0 : Int32))]) (ls' := #[.val (.ref r), .val (.ref ka), .unset, .unset, .unset]) b16_17_18 rfl ?_
    exact o_retZ (w := 0) d16_18 (by decide) (by decide) rfl (by decide) ⟨0, by decide, rfl, ⟨_, _, _, _, _, _, _, _, ⟨Er, Fra, Frv, Frs, Frst, Frk, Fral, Frin⟩, ⟨Eix, Fit, Fip, Fib, Fin, Fil⟩, ⟨Eal, Flm, Fle, Fls⟩, Aed, Avl, Abk, Anx, Aps, Lv, Lb, Ln, Hb, Hn⟩, (Keep.refl h0 [r, ix, vals, bk, nx])⟩
set_option maxRecDepth 65536 in
set_option maxHeartbeats 40000000 in
theorem rm_put (l : Launch) (Z : State) (a0 : Array Value) (hw : ∀ d ∈ tables_1, d.before a0 Z = true) (on : Int32) (h0 : Heap) (hE0 : Ext Z.heap h0) (r ix al ed vals bk nx ps : Addr) (D : RN Z [r, ix, al, ed, vals, bk, nx, ps]) (n : Nat) (st kn : Int32) (hn3 : n ≤ 8) (HI : RI Z h0 r ix al ed vals bk nx ps n st kn) (ka : Addr) (kk : ClassId) (x : Int32) (A_ka : OArr Z h0 ka kk .int ([x].map Value.int)) (L_ka : [x].length = 1) (ne_ka_r : ka ≠ r) (ne_ka_ix : ka ≠ ix) (ne_ka_al : ka ≠ al) (ne_ka_ed : ka ≠ ed) (ne_ka_vals : ka ≠ vals) (ne_ka_bk : ka ≠ bk) (ne_ka_nx : ka ≠ nx) (ne_ka_ps : ka ≠ ps) :
    OCtr l Z (⟨"com/example/mild_horn/mildhorn/datalog/RelationStartRoundPinLaw", "put", "(Lcom/example/mild_horn/mildhorn/datalog/Relation;Z[I)I"⟩ : MethodName) method_2_code 3 (some .int) ({ frames := 4, cells := 1, slots := 4, locals := 63 } : Room) #[(.ref r), (.int on), (.ref ka)] h0 (fun v h => ∃ d : Nat, d ≤ 1 ∧ v = some (.int (Int32.ofNat d)) ∧ RI Z h r ix al ed vals bk nx ps (n + d) st kn ∧ Keep h0 h [r, ix, vals, bk, nx]) := by
  refine o_body (ls0 := #[.val (.ref r), .val (.int on), .val (.ref ka)]) (plainFor_of_name pn_7) hE0 (fun m => by first | (simp [entryFrame, mkF, argsToLocals, Value.category]; done) | rfl) ?_
  intro pG eG sG mG bG meG cG
  refine o_blk (pc' := 1) (st' := [(.int on)]) (ls' := #[.val (.ref r), .val (.int on), .val (.ref ka)]) b11_0_1 rfl ?_
  refine o_if (pc' := 6) (pc'' := 4) d11_1 (by decide) (by decide) rfl (fun (hc1_1 : ¬ on = 0) => ?_) (fun (hc1_1 : on = 0) => ?_)
  ·
    refine o_blk (pc' := 8) (st' := [(.ref ka), (.ref r)]) (ls' := #[.val (.ref r), .val (.int on), .val (.ref ka)]) b11_6_8 rfl ?_
    refine o_callV (W := 0) (argsL := [(.ref ka)]) (rest := []) (pc' := 11) (own_word hw 124 rfl) (own_word hw 125 rfl) (own_word hw 127 rfl) (own_word hw 127 rfl) (own_word hw 126 rfl) (own_word hw 128 rfl) (own_word hw 3 rfl) (by decide) HI.exa (fun hE => rm_add l Z a0 hw h0 hE r ix al ed vals bk nx ps D n st kn hn3 HI ka kk x A_ka L_ka ne_ka_r ne_ka_ix ne_ka_al ne_ka_ed ne_ka_vals ne_ka_bk ne_ka_nx ne_ka_ps) d11_8 pd_15 rfl rfl rfl (Nat.le_of_eq rfl) (by decide) (by decide) (by decide) (by decide) rfl ?_
    rintro _ h1 ⟨d, hd, rfl, HI1, K1⟩ hs2
    refine o_if (pc' := 18) (pc'' := 14) d11_11 (by decide) (by decide) rfl (fun (hc11_3 : (Int32.ofNat d) = 0) => ?_) (fun (hc11_3 : ¬ (Int32.ofNat d) = 0) => ?_)
    ·
      refine o_blk (pc' := 19) (st' := [(.int (0 : Int32))]) (ls' := #[.val (.ref r), .val (.int on), .val (.ref ka)]) b11_18_19 rfl ?_
      exact o_retI d11_19 (by decide) (by decide) rfl ⟨d, hd, by rw [hc11_3], HI1, K1⟩
    ·
      refine o_blk (pc' := 15) (st' := [(.int (1 : Int32))]) (ls' := #[.val (.ref r), .val (.int on), .val (.ref ka)]) b11_14_15 rfl ?_
      refine o_goto (pc' := 19) d11_15 (by decide) (by decide) ?_
      exact o_retI d11_19 (by decide) (by decide) rfl ⟨d, hd, by rw [own_d1 hd hc11_3]; rfl, HI1, K1⟩
  ·
    refine o_blk (pc' := 5) (st' := [(.int (0 : Int32))]) (ls' := #[.val (.ref r), .val (.int on), .val (.ref ka)]) b11_4_5 rfl ?_
    exact o_retI d11_5 (by decide) (by decide) rfl ⟨0, by decide, rfl, HI, Keep.refl _ _⟩
set_option maxRecDepth 65536 in
set_option maxHeartbeats 40000000 in
theorem rm_law (l : Launch) (Z : State) (a0 : Array Value) (hw : ∀ d ∈ tables_1, d.before a0 Z = true) (p0 p1 p2 p3 p4 : Int32) (h0 : Heap) (hE0 : Ext Z.heap h0)  :
    OCtr l Z x code maxLocals ret room_1 #[(.int p0), (.int p1), (.int p2), (.int p3), (.int p4)] h0 (fun v h => v = some (.int 1)) := by
  refine o_body (ls0 := #[.val (.int p0), .val (.int p1), .val (.int p2), .val (.int p3), .val (.int p4), .unset, .unset, .unset, .unset, .unset, .unset, .unset, .unset, .unset]) (plainFor_of_name pn_7) hE0 (fun m => by first | (simp [entryFrame, mkF, argsToLocals, Value.category, maxLocals]; done) | rfl) ?_
  intro pG eG sG mG bG meG cG
  refine o_blk (pc' := 1) (st' := [(.int (1 : Int32))]) (ls' := #[.val (.int p0), .val (.int p1), .val (.int p2), .val (.int p3), .val (.int p4), .unset, .unset, .unset, .unset, .unset, .unset, .unset, .unset, .unset]) b0_0_1 rfl ?_
  refine o_newPE (n := 1) (cap := 1) (ad := "[I") (pc' := 3) (own_word hw 0 rfl) (by decide) rfl (by omega) (by decide) d0_1 (by decide) (by decide) rfl ?_
  intro h1 a1 k1 ea1 na1 X1 F1 E1
  have G1 := own_repI F1
  have hl1 : (List.replicate 1 (0 : Int32)).length = 1 := List.length_replicate
  refine o_blk (pc' := 6) (st' := [(.int p0), (.int (0 : Int32)), (.ref a1), (.ref a1)]) (ls' := #[.val (.int p0), .val (.int p1), .val (.int p2), .val (.int p3), .val (.int p4), .unset, .unset, .unset, .unset, .unset, .unset, .unset, .unset, .unset]) b0_3_6 rfl ?_
  refine o_iast (i := 0) (pc' := 7) G1 rfl (by rw [List.length_map, hl1]; omega) na1 d0_6 rfl ?_
  intro h2 W2
  have F3 := E1.wr W2
  have F4 := own_setI G1 W2
  have hl5 : ((List.replicate 1 (0 : Int32)).set 0 p0).length = 1 := by rw [List.length_set]; exact hl1
  refine o_blk (pc' := 9) (st' := []) (ls' := #[.val (.int p0), .val (.int p1), .val (.int p2), .val (.int p3), .val (.int p4), .val (.ref a1), .unset, .unset, .unset, .unset, .unset, .unset, .unset, .unset]) b0_7_9 rfl ?_
  refine o_blk (pc' := 10) (st' := [(.int (1 : Int32))]) (ls' := #[.val (.int p0), .val (.int p1), .val (.int p2), .val (.int p3), .val (.int p4), .val (.ref a1), .unset, .unset, .unset, .unset, .unset, .unset, .unset, .unset]) b0_9_10 rfl ?_
  refine o_newPE (n := 1) (cap := 1) (ad := "[I") (pc' := 12) (own_word hw 0 rfl) (by decide) rfl (by omega) (by decide) d0_10 (by decide) (by decide) rfl ?_
  intro h6 a6 k6 ea6 na6 X6 F6 E6
  have ne7 : a1 ≠ a6 := Nat.ne_of_lt (by rw [ea6]; exact F3.lt)
  have F8 := F3.ext X6
  have F9 := F4.ext X6
  have G6 := own_repI F6
  have hl6 : (List.replicate 1 (0 : Int32)).length = 1 := List.length_replicate
  refine o_blk (pc' := 15) (st' := [(.int p1), (.int (0 : Int32)), (.ref a6), (.ref a6)]) (ls' := #[.val (.int p0), .val (.int p1), .val (.int p2), .val (.int p3), .val (.int p4), .val (.ref a1), .unset, .unset, .unset, .unset, .unset, .unset, .unset, .unset]) b0_12_15 rfl ?_
  refine o_iast (i := 0) (pc' := 16) G6 rfl (by rw [List.length_map, hl6]; omega) na6 d0_15 rfl ?_
  intro h10 W10
  have F11 := F8.wr W10
  have F12 := F9.other W10 ne7
  have F13 := E6.wr W10
  have F14 := own_setI G6 W10
  have hl15 : ((List.replicate 1 (0 : Int32)).set 0 p1).length = 1 := by rw [List.length_set]; exact hl6
  refine o_blk (pc' := 18) (st' := []) (ls' := #[.val (.int p0), .val (.int p1), .val (.int p2), .val (.int p3), .val (.int p4), .val (.ref a1), .val (.ref a6), .unset, .unset, .unset, .unset, .unset, .unset, .unset]) b0_16_18 rfl ?_
  refine o_blk (pc' := 19) (st' := [(.int (1 : Int32))]) (ls' := #[.val (.int p0), .val (.int p1), .val (.int p2), .val (.int p3), .val (.int p4), .val (.ref a1), .val (.ref a6), .unset, .unset, .unset, .unset, .unset, .unset, .unset]) b0_18_19 rfl ?_
  refine o_newPE (n := 1) (cap := 1) (ad := "[I") (pc' := 21) (own_word hw 0 rfl) (by decide) rfl (by omega) (by decide) d0_19 (by decide) (by decide) rfl ?_
  intro h16 a16 k16 ea16 na16 X16 F16 E16
  have ne17 : a1 ≠ a16 := Nat.ne_of_lt (by rw [ea16]; exact F11.lt)
  have ne18 : a6 ≠ a16 := Nat.ne_of_lt (by rw [ea16]; exact F13.lt)
  have F19 := F11.ext X16
  have F20 := F12.ext X16
  have F21 := F13.ext X16
  have F22 := F14.ext X16
  have G16 := own_repI F16
  have hl16 : (List.replicate 1 (0 : Int32)).length = 1 := List.length_replicate
  refine o_blk (pc' := 24) (st' := [(.int p2), (.int (0 : Int32)), (.ref a16), (.ref a16)]) (ls' := #[.val (.int p0), .val (.int p1), .val (.int p2), .val (.int p3), .val (.int p4), .val (.ref a1), .val (.ref a6), .unset, .unset, .unset, .unset, .unset, .unset, .unset]) b0_21_24 rfl ?_
  refine o_iast (i := 0) (pc' := 25) G16 rfl (by rw [List.length_map, hl16]; omega) na16 d0_24 rfl ?_
  intro h23 W23
  have F24 := F19.wr W23
  have F25 := F20.other W23 ne17
  have F26 := F21.wr W23
  have F27 := F22.other W23 ne18
  have F28 := E16.wr W23
  have F29 := own_setI G16 W23
  have hl30 : ((List.replicate 1 (0 : Int32)).set 0 p2).length = 1 := by rw [List.length_set]; exact hl16
  refine o_blk (pc' := 27) (st' := []) (ls' := #[.val (.int p0), .val (.int p1), .val (.int p2), .val (.int p3), .val (.int p4), .val (.ref a1), .val (.ref a6), .val (.ref a16), .unset, .unset, .unset, .unset, .unset, .unset]) b0_25_27 rfl ?_
  refine o_blk (pc' := 28) (st' := [(.int (1 : Int32))]) (ls' := #[.val (.int p0), .val (.int p1), .val (.int p2), .val (.int p3), .val (.int p4), .val (.ref a1), .val (.ref a6), .val (.ref a16), .unset, .unset, .unset, .unset, .unset, .unset]) b0_27_28 rfl ?_
  refine o_newPE (n := 1) (cap := 1) (ad := "[I") (pc' := 30) (own_word hw 0 rfl) (by decide) rfl (by omega) (by decide) d0_28 (by decide) (by decide) rfl ?_
  intro h31 a31 k31 ea31 na31 X31 F31 E31
  have ne32 : a1 ≠ a31 := Nat.ne_of_lt (by rw [ea31]; exact F24.lt)
  have ne33 : a6 ≠ a31 := Nat.ne_of_lt (by rw [ea31]; exact F26.lt)
  have ne34 : a16 ≠ a31 := Nat.ne_of_lt (by rw [ea31]; exact F28.lt)
  have F35 := F24.ext X31
  have F36 := F25.ext X31
  have F37 := F26.ext X31
  have F38 := F27.ext X31
  have F39 := F28.ext X31
  have F40 := F29.ext X31
  have G31 := own_repI F31
  have hl31 : (List.replicate 1 (0 : Int32)).length = 1 := List.length_replicate
  refine o_blk (pc' := 33) (st' := [(.int p3), (.int (0 : Int32)), (.ref a31), (.ref a31)]) (ls' := #[.val (.int p0), .val (.int p1), .val (.int p2), .val (.int p3), .val (.int p4), .val (.ref a1), .val (.ref a6), .val (.ref a16), .unset, .unset, .unset, .unset, .unset, .unset]) b0_30_33 rfl ?_
  refine o_iast (i := 0) (pc' := 34) G31 rfl (by rw [List.length_map, hl31]; omega) na31 d0_33 rfl ?_
  intro h41 W41
  have F42 := F35.wr W41
  have F43 := F36.other W41 ne32
  have F44 := F37.wr W41
  have F45 := F38.other W41 ne33
  have F46 := F39.wr W41
  have F47 := F40.other W41 ne34
  have F48 := E31.wr W41
  have F49 := own_setI G31 W41
  have hl50 : ((List.replicate 1 (0 : Int32)).set 0 p3).length = 1 := by rw [List.length_set]; exact hl31
  refine o_blk (pc' := 36) (st' := []) (ls' := #[.val (.int p0), .val (.int p1), .val (.int p2), .val (.int p3), .val (.int p4), .val (.ref a1), .val (.ref a6), .val (.ref a16), .val (.ref a31), .unset, .unset, .unset, .unset, .unset]) b0_34_36 rfl ?_
  refine o_newO (pc' := 39) (own_word hw 1 rfl) (own_word hw 2 rfl) (own_word hw 3 rfl) d0_36 (by decide) (by decide) rfl ?_
  intro h51 a51 ea51 na51 X51 E51 D51
  have ne52 : a1 ≠ a51 := Nat.ne_of_lt (by rw [ea51]; exact F42.lt)
  have ne53 : a6 ≠ a51 := Nat.ne_of_lt (by rw [ea51]; exact F44.lt)
  have ne54 : a16 ≠ a51 := Nat.ne_of_lt (by rw [ea51]; exact F46.lt)
  have ne55 : a31 ≠ a51 := Nat.ne_of_lt (by rw [ea51]; exact F48.lt)
  have F56 := F42.ext X51
  have F57 := F43.ext X51
  have F58 := F44.ext X51
  have F59 := F45.ext X51
  have F60 := F46.ext X51
  have F61 := F47.ext X51
  have F62 := F48.ext X51
  have F63 := F49.ext X51
  have F64 : Fld Z h51 a51 "com/example/mild_horn/mildhorn/datalog/Relation" "arity" "I" (.int (0 : Int32)) := D51 (Or.inr (own_word hw 38 rfl)) (ty := .int) (by decide)
  have F65 : Fld Z h51 a51 "com/example/mild_horn/mildhorn/datalog/Relation" "values" "[I" .null := D51 (Or.inl (own_word hw 44 rfl)) (ty := (.array .int)) (by decide)
  have F66 : Fld Z h51 a51 "com/example/mild_horn/mildhorn/datalog/Relation" "size" "I" (.int (0 : Int32)) := D51 (Or.inl (own_word hw 108 rfl)) (ty := .int) (by decide)
  have F67 : Fld Z h51 a51 "com/example/mild_horn/mildhorn/datalog/Relation" "stable" "I" (.int (0 : Int32)) := D51 (Or.inl (own_word hw 106 rfl)) (ty := .int) (by decide)
  have F68 : Fld Z h51 a51 "com/example/mild_horn/mildhorn/datalog/Relation" "known" "I" (.int (0 : Int32)) := D51 (Or.inl (own_word hw 104 rfl)) (ty := .int) (by decide)
  have F69 : Fld Z h51 a51 "com/example/mild_horn/mildhorn/datalog/Relation" "all" "Lcom/example/mild_horn/mildhorn/datalog/Relation$Index;" .null := D51 (Or.inr (own_word hw 74 rfl)) (ty := (.object "com/example/mild_horn/mildhorn/datalog/Relation$Index")) (by decide)
  have F70 : Fld Z h51 a51 "com/example/mild_horn/mildhorn/datalog/Relation" "indexes" "Ljava/util/List;" .null := D51 (Or.inr (own_word hw 36 rfl)) (ty := (.object "java/util/List")) (by decide)
  refine o_blk (pc' := 41) (st' := [(.int (1 : Int32)), (.ref a51), (.ref a51)]) (ls' := #[.val (.int p0), .val (.int p1), .val (.int p2), .val (.int p3), .val (.int p4), .val (.ref a1), .val (.ref a6), .val (.ref a16), .val (.ref a31), .unset, .unset, .unset, .unset, .unset]) b0_39_41 rfl ?_
  refine o_callI (W := 1) (argsL := [(.int (1 : Int32))]) (rest := [(.ref a51)]) (pc' := 44) rfl (own_word hw 4 rfl) (own_word hw 5 rfl) (own_word hw 6 rfl) (own_word hw 3 rfl) (by decide) (fun hE => rm_rel l Z a0 hw h51 hE a51 E51 F64 F65 F66 F67 F68 F69 F70 na51) d0_41 pd_3 rfl rfl rfl (Nat.le_of_eq rfl) (by decide) (by decide) (by decide) (by decide) rfl ?_
  rintro _ hrl ⟨rfl, ix, al, ed, vals, bk, nx, ps, HI0, D0, og, Krl⟩ hs71
  have F72 := F57.keep Krl (ninS ne52 nin0)
  have F73 := F59.keep Krl (ninS ne53 nin0)
  have F74 := F61.keep Krl (ninS ne54 nin0)
  have F75 := F63.keep Krl (ninS ne55 nin0)
  have ne_a1_ix : a1 ≠ ix := Nat.ne_of_lt (Nat.lt_of_lt_of_le F57.lt (og ix (by simp)))
  have ne_a1_al : a1 ≠ al := Nat.ne_of_lt (Nat.lt_of_lt_of_le F57.lt (og al (by simp)))
  have ne_a1_ed : a1 ≠ ed := Nat.ne_of_lt (Nat.lt_of_lt_of_le F57.lt (og ed (by simp)))
  have ne_a1_vals : a1 ≠ vals := Nat.ne_of_lt (Nat.lt_of_lt_of_le F57.lt (og vals (by simp)))
  have ne_a1_bk : a1 ≠ bk := Nat.ne_of_lt (Nat.lt_of_lt_of_le F57.lt (og bk (by simp)))
  have ne_a1_nx : a1 ≠ nx := Nat.ne_of_lt (Nat.lt_of_lt_of_le F57.lt (og nx (by simp)))
  have ne_a1_ps : a1 ≠ ps := Nat.ne_of_lt (Nat.lt_of_lt_of_le F57.lt (og ps (by simp)))
  have ne_a6_ix : a6 ≠ ix := Nat.ne_of_lt (Nat.lt_of_lt_of_le F59.lt (og ix (by simp)))
  have ne_a6_al : a6 ≠ al := Nat.ne_of_lt (Nat.lt_of_lt_of_le F59.lt (og al (by simp)))
  have ne_a6_ed : a6 ≠ ed := Nat.ne_of_lt (Nat.lt_of_lt_of_le F59.lt (og ed (by simp)))
  have ne_a6_vals : a6 ≠ vals := Nat.ne_of_lt (Nat.lt_of_lt_of_le F59.lt (og vals (by simp)))
  have ne_a6_bk : a6 ≠ bk := Nat.ne_of_lt (Nat.lt_of_lt_of_le F59.lt (og bk (by simp)))
  have ne_a6_nx : a6 ≠ nx := Nat.ne_of_lt (Nat.lt_of_lt_of_le F59.lt (og nx (by simp)))
  have ne_a6_ps : a6 ≠ ps := Nat.ne_of_lt (Nat.lt_of_lt_of_le F59.lt (og ps (by simp)))
  have ne_a16_ix : a16 ≠ ix := Nat.ne_of_lt (Nat.lt_of_lt_of_le F61.lt (og ix (by simp)))
  have ne_a16_al : a16 ≠ al := Nat.ne_of_lt (Nat.lt_of_lt_of_le F61.lt (og al (by simp)))
  have ne_a16_ed : a16 ≠ ed := Nat.ne_of_lt (Nat.lt_of_lt_of_le F61.lt (og ed (by simp)))
  have ne_a16_vals : a16 ≠ vals := Nat.ne_of_lt (Nat.lt_of_lt_of_le F61.lt (og vals (by simp)))
  have ne_a16_bk : a16 ≠ bk := Nat.ne_of_lt (Nat.lt_of_lt_of_le F61.lt (og bk (by simp)))
  have ne_a16_nx : a16 ≠ nx := Nat.ne_of_lt (Nat.lt_of_lt_of_le F61.lt (og nx (by simp)))
  have ne_a16_ps : a16 ≠ ps := Nat.ne_of_lt (Nat.lt_of_lt_of_le F61.lt (og ps (by simp)))
  have ne_a31_ix : a31 ≠ ix := Nat.ne_of_lt (Nat.lt_of_lt_of_le F63.lt (og ix (by simp)))
  have ne_a31_al : a31 ≠ al := Nat.ne_of_lt (Nat.lt_of_lt_of_le F63.lt (og al (by simp)))
  have ne_a31_ed : a31 ≠ ed := Nat.ne_of_lt (Nat.lt_of_lt_of_le F63.lt (og ed (by simp)))
  have ne_a31_vals : a31 ≠ vals := Nat.ne_of_lt (Nat.lt_of_lt_of_le F63.lt (og vals (by simp)))
  have ne_a31_bk : a31 ≠ bk := Nat.ne_of_lt (Nat.lt_of_lt_of_le F63.lt (og bk (by simp)))
  have ne_a31_nx : a31 ≠ nx := Nat.ne_of_lt (Nat.lt_of_lt_of_le F63.lt (og nx (by simp)))
  have ne_a31_ps : a31 ≠ ps := Nat.ne_of_lt (Nat.lt_of_lt_of_le F63.lt (og ps (by simp)))
  refine o_blk (pc' := 46) (st' := []) (ls' := #[.val (.int p0), .val (.int p1), .val (.int p2), .val (.int p3), .val (.int p4), .val (.ref a1), .val (.ref a6), .val (.ref a16), .val (.ref a31), .val (.ref a51), .unset, .unset, .unset, .unset]) b0_44_46 rfl ?_
  refine o_blk (pc' := 52) (st' := [(.int (p4 &&& (1 : Int32))), (.ref a51)]) (ls' := #[.val (.int p0), .val (.int p1), .val (.int p2), .val (.int p3), .val (.int p4), .val (.ref a1), .val (.ref a6), .val (.ref a16), .val (.ref a31), .val (.ref a51), .unset, .unset, .unset, .unset]) b0_46_52 rfl ?_
  have J60_77 : ∀ (z1 : Int32), OG pG l eG room_1 sG mG #[(.int p0), (.int p1), (.int p2), (.int p3), (.int p4)] bG meG cG Z x.cls x.name code maxLocals ret (fun v h => v = some (.int 1)) room_1.cells room_1.slots hrl 13 70 (mkF mG 60 #[.val (.int p0), .val (.int p1), .val (.int p2), .val (.int p3), .val (.int p4), .val (.ref a1), .val (.ref a6), .val (.ref a16), .val (.ref a31), .val (.ref a51), .unset, .unset, .unset, .unset] [(.int z1), (.ref a51)]) := by
    intro z1
    refine o_blk (pc' := 62) (st' := [(.ref a1), (.int z1), (.ref a51)]) (ls' := #[.val (.int p0), .val (.int p1), .val (.int p2), .val (.int p3), .val (.int p4), .val (.ref a1), .val (.ref a6), .val (.ref a16), .val (.ref a31), .val (.ref a51), .unset, .unset, .unset, .unset]) b0_60_62 rfl ?_
    refine o_callS (W := 0) (argsL := [(.ref a51), (.int z1), (.ref a1)]) (rest := []) (pc' := 65) (own_word hw 94 rfl) (own_word hw 95 rfl) (own_word hw 96 rfl) (own_word hw 97 rfl) (by decide) (fun hE => rm_put l Z a0 hw z1 hrl hE a51 ix al ed vals bk nx ps D0 0 0 0 (by omega) HI0 a1 k1 p0 F72 rfl ne52 ne_a1_ix ne_a1_al ne_a1_ed ne_a1_vals ne_a1_bk ne_a1_nx ne_a1_ps) d0_62 pd_16 rfl rfl rfl (Nat.le_of_eq rfl) (by decide) (by decide) (by decide) (by decide) rfl ?_
    rintro _ h_p1 ⟨d1, hdd1, rfl, HId1, Kd1⟩ hs78
    have F79 := F72.keep Kd1 (ninS ne52 (ninS ne_a1_ix (ninS ne_a1_vals (ninS ne_a1_bk (ninS ne_a1_nx nin0)))))
    have F80 := F73.keep Kd1 (ninS ne53 (ninS ne_a6_ix (ninS ne_a6_vals (ninS ne_a6_bk (ninS ne_a6_nx nin0)))))
    have F81 := F74.keep Kd1 (ninS ne54 (ninS ne_a16_ix (ninS ne_a16_vals (ninS ne_a16_bk (ninS ne_a16_nx nin0)))))
    have F82 := F75.keep Kd1 (ninS ne55 (ninS ne_a31_ix (ninS ne_a31_vals (ninS ne_a31_bk (ninS ne_a31_nx nin0)))))
    refine o_blk (pc' := 71) (st' := [(.int (p4 &&& (2 : Int32))), (.ref a51), (.int (Int32.ofNat d1))]) (ls' := #[.val (.int p0), .val (.int p1), .val (.int p2), .val (.int p3), .val (.int p4), .val (.ref a1), .val (.ref a6), .val (.ref a16), .val (.ref a31), .val (.ref a51), .unset, .unset, .unset, .unset]) b0_65_71 rfl ?_
    have J79_84 : ∀ (z2 : Int32), OG pG l eG room_1 sG mG #[(.int p0), (.int p1), (.int p2), (.int p3), (.int p4)] bG meG cG Z x.cls x.name code maxLocals ret (fun v h => v = some (.int 1)) room_1.cells room_1.slots h_p1 14 74 (mkF mG 79 #[.val (.int p0), .val (.int p1), .val (.int p2), .val (.int p3), .val (.int p4), .val (.ref a1), .val (.ref a6), .val (.ref a16), .val (.ref a31), .val (.ref a51), .unset, .unset, .unset, .unset] [(.int z2), (.ref a51), (.int (Int32.ofNat d1))]) := by
      intro z2
      refine o_blk (pc' := 81) (st' := [(.ref a6), (.int z2), (.ref a51), (.int (Int32.ofNat d1))]) (ls' := #[.val (.int p0), .val (.int p1), .val (.int p2), .val (.int p3), .val (.int p4), .val (.ref a1), .val (.ref a6), .val (.ref a16), .val (.ref a31), .val (.ref a51), .unset, .unset, .unset, .unset]) b0_79_81 rfl ?_
      refine o_callS (W := 1) (argsL := [(.ref a51), (.int z2), (.ref a6)]) (rest := [(.int (Int32.ofNat d1))]) (pc' := 84) (own_word hw 94 rfl) (own_word hw 95 rfl) (own_word hw 96 rfl) (own_word hw 97 rfl) (by decide) (fun hE => rm_put l Z a0 hw z2 h_p1 hE a51 ix al ed vals bk nx ps D0 (0 + d1) 0 0 (by omega) HId1 a6 k6 p1 F80 rfl ne53 ne_a6_ix ne_a6_al ne_a6_ed ne_a6_vals ne_a6_bk ne_a6_nx ne_a6_ps) d0_81 pd_16 rfl rfl rfl (Nat.le_of_eq rfl) (by decide) (by decide) (by decide) (by decide) rfl ?_
      rintro _ h_p2 ⟨d2, hdd2, rfl, HId2, Kd2⟩ hs85
      have F86 := F79.keep Kd2 (ninS ne52 (ninS ne_a1_ix (ninS ne_a1_vals (ninS ne_a1_bk (ninS ne_a1_nx nin0)))))
      have F87 := F80.keep Kd2 (ninS ne53 (ninS ne_a6_ix (ninS ne_a6_vals (ninS ne_a6_bk (ninS ne_a6_nx nin0)))))
      have F88 := F81.keep Kd2 (ninS ne54 (ninS ne_a16_ix (ninS ne_a16_vals (ninS ne_a16_bk (ninS ne_a16_nx nin0)))))
      have F89 := F82.keep Kd2 (ninS ne55 (ninS ne_a31_ix (ninS ne_a31_vals (ninS ne_a31_bk (ninS ne_a31_nx nin0)))))
      refine o_blk (pc' := 85) (st' := [(.int ((Int32.ofNat d1) + (Int32.ofNat d2)))]) (ls' := #[.val (.int p0), .val (.int p1), .val (.int p2), .val (.int p3), .val (.int p4), .val (.ref a1), .val (.ref a6), .val (.ref a16), .val (.ref a31), .val (.ref a51), .unset, .unset, .unset, .unset]) b0_84_85 rfl ?_
      rw [own_addn d1 d2]
      refine o_blk (pc' := 87) (st' := []) (ls' := #[.val (.int p0), .val (.int p1), .val (.int p2), .val (.int p3), .val (.int p4), .val (.ref a1), .val (.ref a6), .val (.ref a16), .val (.ref a31), .val (.ref a51), .val (.int (Int32.ofNat (d1 + d2))), .unset, .unset, .unset]) b0_85_87 rfl ?_
      refine o_blk (pc' := 89) (st' := [(.ref a51)]) (ls' := #[.val (.int p0), .val (.int p1), .val (.int p2), .val (.int p3), .val (.int p4), .val (.ref a1), .val (.ref a6), .val (.ref a16), .val (.ref a31), .val (.ref a51), .val (.int (Int32.ofNat (d1 + d2))), .unset, .unset, .unset]) b0_87_89 rfl ?_
      refine o_callV (W := 0) (argsL := []) (rest := []) (pc' := 92) (own_word hw 98 rfl) (own_word hw 99 rfl) (own_word hw 101 rfl) (own_word hw 101 rfl) (own_word hw 100 rfl) (own_word hw 102 rfl) (own_word hw 3 rfl) (by decide) HId2.exa (fun hE => rm_sr l Z a0 hw h_p2 hE a51 ix al ed vals bk nx ps D0 ((0 + d1) + d2) 0 0 HId2) d0_89 pd_0 rfl rfl rfl (Nat.le_of_eq rfl) (by decide) (by decide) (by decide) (by decide) rfl ?_
      rintro _ hsr1 ⟨rfl, HIs1, Ksr1⟩ hs90
      have F91 := F86.keep Ksr1 (ninS ne52 nin0)
      have F92 := F87.keep Ksr1 (ninS ne53 nin0)
      have F93 := F88.keep Ksr1 (ninS ne54 nin0)
      have F94 := F89.keep Ksr1 (ninS ne55 nin0)
      refine o_blk (pc' := 94) (st' := [(.ref a51)]) (ls' := #[.val (.int p0), .val (.int p1), .val (.int p2), .val (.int p3), .val (.int p4), .val (.ref a1), .val (.ref a6), .val (.ref a16), .val (.ref a31), .val (.ref a51), .val (.int (Int32.ofNat (d1 + d2))), .unset, .unset, .unset]) b0_92_94 rfl ?_
      refine o_callV (W := 0) (argsL := []) (rest := []) (pc' := 97) (own_word hw 109 rfl) (own_word hw 110 rfl) (own_word hw 112 rfl) (own_word hw 112 rfl) (own_word hw 111 rfl) (own_word hw 113 rfl) (own_word hw 3 rfl) (by decide) HIs1.exa (fun hE => rm_stable l Z a0 hw hsr1 hE a51 ix al ed vals bk nx ps D0 ((0 + d1) + d2) 0 (Int32.ofNat ((0 + d1) + d2)) HIs1) d0_94 pd_17 rfl rfl rfl (Nat.le_of_eq rfl) (by decide) (by decide) (by decide) (by decide) rfl ?_
      rintro _ _ ⟨rfl, rfl⟩ hs95
      refine o_ifN (pc' := 100) d0_97 rfl (by decide : (0 : Int32) = 0) ?_
      refine o_blk (pc' := 102) (st' := [(.ref a51)]) (ls' := #[.val (.int p0), .val (.int p1), .val (.int p2), .val (.int p3), .val (.int p4), .val (.ref a1), .val (.ref a6), .val (.ref a16), .val (.ref a31), .val (.ref a51), .val (.int (Int32.ofNat (d1 + d2))), .unset, .unset, .unset]) b0_100_102 rfl ?_
      refine o_callV (W := 0) (argsL := []) (rest := []) (pc' := 105) (own_word hw 114 rfl) (own_word hw 115 rfl) (own_word hw 117 rfl) (own_word hw 117 rfl) (own_word hw 116 rfl) (own_word hw 118 rfl) (own_word hw 3 rfl) (by decide) HIs1.exa (fun hE => rm_known l Z a0 hw hsr1 hE a51 ix al ed vals bk nx ps D0 ((0 + d1) + d2) 0 (Int32.ofNat ((0 + d1) + d2)) HIs1) d0_102 pd_17 rfl rfl rfl (Nat.le_of_eq rfl) (by decide) (by decide) (by decide) (by decide) rfl ?_
      rintro _ _ ⟨rfl, rfl⟩ hs96
      refine o_blk (pc' := 107) (st' := [(.int (Int32.ofNat (d1 + d2))), (.int (Int32.ofNat ((0 + d1) + d2)))]) (ls' := #[.val (.int p0), .val (.int p1), .val (.int p2), .val (.int p3), .val (.int p4), .val (.ref a1), .val (.ref a6), .val (.ref a16), .val (.ref a31), .val (.ref a51), .val (.int (Int32.ofNat (d1 + d2))), .unset, .unset, .unset]) b0_105_107 rfl ?_
      refine o_icN (pc' := 110) d0_107 rfl (congrArg Int32.ofNat (by omega) : (Int32.ofNat ((0 + d1) + d2)) = (Int32.ofNat (d1 + d2))) ?_
      refine o_blk (pc' := 111) (st' := [(.int (1 : Int32))]) (ls' := #[.val (.int p0), .val (.int p1), .val (.int p2), .val (.int p3), .val (.int p4), .val (.ref a1), .val (.ref a6), .val (.ref a16), .val (.ref a31), .val (.ref a51), .val (.int (Int32.ofNat (d1 + d2))), .unset, .unset, .unset]) b0_110_111 rfl ?_
      refine o_goto (pc' := 115) d0_111 (by decide) (by decide) ?_
      refine o_blk (pc' := 117) (st' := []) (ls' := #[.val (.int p0), .val (.int p1), .val (.int p2), .val (.int p3), .val (.int p4), .val (.ref a1), .val (.ref a6), .val (.ref a16), .val (.ref a31), .val (.ref a51), .val (.int (Int32.ofNat (d1 + d2))), .val (.int (1 : Int32)), .unset, .unset]) b0_115_117 rfl ?_
      refine o_blk (pc' := 125) (st' := [(.int (p4 &&& (4 : Int32))), (.ref a51), (.int (Int32.ofNat (d1 + d2)))]) (ls' := #[.val (.int p0), .val (.int p1), .val (.int p2), .val (.int p3), .val (.int p4), .val (.ref a1), .val (.ref a6), .val (.ref a16), .val (.ref a31), .val (.ref a51), .val (.int (Int32.ofNat (d1 + d2))), .val (.int (1 : Int32)), .unset, .unset]) b0_117_125 rfl ?_
      have J133_98 : ∀ (z3 : Int32), OG pG l eG room_1 sG mG #[(.int p0), (.int p1), (.int p2), (.int p3), (.int p4)] bG meG cG Z x.cls x.name code maxLocals ret (fun v h => v = some (.int 1)) room_1.cells room_1.slots hsr1 15 78 (mkF mG 133 #[.val (.int p0), .val (.int p1), .val (.int p2), .val (.int p3), .val (.int p4), .val (.ref a1), .val (.ref a6), .val (.ref a16), .val (.ref a31), .val (.ref a51), .val (.int (Int32.ofNat (d1 + d2))), .val (.int (1 : Int32)), .unset, .unset] [(.int z3), (.ref a51), (.int (Int32.ofNat (d1 + d2)))]) := by
        intro z3
        refine o_blk (pc' := 135) (st' := [(.ref a16), (.int z3), (.ref a51), (.int (Int32.ofNat (d1 + d2)))]) (ls' := #[.val (.int p0), .val (.int p1), .val (.int p2), .val (.int p3), .val (.int p4), .val (.ref a1), .val (.ref a6), .val (.ref a16), .val (.ref a31), .val (.ref a51), .val (.int (Int32.ofNat (d1 + d2))), .val (.int (1 : Int32)), .unset, .unset]) b0_133_135 rfl ?_
        refine o_callS (W := 1) (argsL := [(.ref a51), (.int z3), (.ref a16)]) (rest := [(.int (Int32.ofNat (d1 + d2)))]) (pc' := 138) (own_word hw 94 rfl) (own_word hw 95 rfl) (own_word hw 96 rfl) (own_word hw 97 rfl) (by decide) (fun hE => rm_put l Z a0 hw z3 hsr1 hE a51 ix al ed vals bk nx ps D0 ((0 + d1) + d2) 0 (Int32.ofNat ((0 + d1) + d2)) (by omega) HIs1 a16 k16 p2 F93 rfl ne54 ne_a16_ix ne_a16_al ne_a16_ed ne_a16_vals ne_a16_bk ne_a16_nx ne_a16_ps) d0_135 pd_16 rfl rfl rfl (Nat.le_of_eq rfl) (by decide) (by decide) (by decide) (by decide) rfl ?_
        rintro _ h_p3 ⟨d3, hdd3, rfl, HId3, Kd3⟩ hs99
        have F100 := F91.keep Kd3 (ninS ne52 (ninS ne_a1_ix (ninS ne_a1_vals (ninS ne_a1_bk (ninS ne_a1_nx nin0)))))
        have F101 := F92.keep Kd3 (ninS ne53 (ninS ne_a6_ix (ninS ne_a6_vals (ninS ne_a6_bk (ninS ne_a6_nx nin0)))))
        have F102 := F93.keep Kd3 (ninS ne54 (ninS ne_a16_ix (ninS ne_a16_vals (ninS ne_a16_bk (ninS ne_a16_nx nin0)))))
        have F103 := F94.keep Kd3 (ninS ne55 (ninS ne_a31_ix (ninS ne_a31_vals (ninS ne_a31_bk (ninS ne_a31_nx nin0)))))
        refine o_blk (pc' := 139) (st' := [(.int ((Int32.ofNat (d1 + d2)) + (Int32.ofNat d3)))]) (ls' := #[.val (.int p0), .val (.int p1), .val (.int p2), .val (.int p3), .val (.int p4), .val (.ref a1), .val (.ref a6), .val (.ref a16), .val (.ref a31), .val (.ref a51), .val (.int (Int32.ofNat (d1 + d2))), .val (.int (1 : Int32)), .unset, .unset]) b0_138_139 rfl ?_
        rw [own_addn (d1 + d2) d3]
        refine o_blk (pc' := 146) (st' := [(.int (p4 &&& (8 : Int32))), (.ref a51), (.int (Int32.ofNat ((d1 + d2) + d3)))]) (ls' := #[.val (.int p0), .val (.int p1), .val (.int p2), .val (.int p3), .val (.int p4), .val (.ref a1), .val (.ref a6), .val (.ref a16), .val (.ref a31), .val (.ref a51), .val (.int (Int32.ofNat (d1 + d2))), .val (.int (1 : Int32)), .unset, .unset]) b0_139_146 rfl ?_
        have J154_105 : ∀ (z4 : Int32), OG pG l eG room_1 sG mG #[(.int p0), (.int p1), (.int p2), (.int p3), (.int p4)] bG meG cG Z x.cls x.name code maxLocals ret (fun v h => v = some (.int 1)) room_1.cells room_1.slots h_p3 16 82 (mkF mG 154 #[.val (.int p0), .val (.int p1), .val (.int p2), .val (.int p3), .val (.int p4), .val (.ref a1), .val (.ref a6), .val (.ref a16), .val (.ref a31), .val (.ref a51), .val (.int (Int32.ofNat (d1 + d2))), .val (.int (1 : Int32)), .unset, .unset] [(.int z4), (.ref a51), (.int (Int32.ofNat ((d1 + d2) + d3)))]) := by
          intro z4
          refine o_blk (pc' := 156) (st' := [(.ref a31), (.int z4), (.ref a51), (.int (Int32.ofNat ((d1 + d2) + d3)))]) (ls' := #[.val (.int p0), .val (.int p1), .val (.int p2), .val (.int p3), .val (.int p4), .val (.ref a1), .val (.ref a6), .val (.ref a16), .val (.ref a31), .val (.ref a51), .val (.int (Int32.ofNat (d1 + d2))), .val (.int (1 : Int32)), .unset, .unset]) b0_154_156 rfl ?_
          refine o_callS (W := 1) (argsL := [(.ref a51), (.int z4), (.ref a31)]) (rest := [(.int (Int32.ofNat ((d1 + d2) + d3)))]) (pc' := 159) (own_word hw 94 rfl) (own_word hw 95 rfl) (own_word hw 96 rfl) (own_word hw 97 rfl) (by decide) (fun hE => rm_put l Z a0 hw z4 h_p3 hE a51 ix al ed vals bk nx ps D0 (((0 + d1) + d2) + d3) 0 (Int32.ofNat ((0 + d1) + d2)) (by omega) HId3 a31 k31 p3 F103 rfl ne55 ne_a31_ix ne_a31_al ne_a31_ed ne_a31_vals ne_a31_bk ne_a31_nx ne_a31_ps) d0_156 pd_16 rfl rfl rfl (Nat.le_of_eq rfl) (by decide) (by decide) (by decide) (by decide) rfl ?_
          rintro _ h_p4 ⟨d4, hdd4, rfl, HId4, Kd4⟩ hs106
          have F107 := F100.keep Kd4 (ninS ne52 (ninS ne_a1_ix (ninS ne_a1_vals (ninS ne_a1_bk (ninS ne_a1_nx nin0)))))
          have F108 := F101.keep Kd4 (ninS ne53 (ninS ne_a6_ix (ninS ne_a6_vals (ninS ne_a6_bk (ninS ne_a6_nx nin0)))))
          have F109 := F102.keep Kd4 (ninS ne54 (ninS ne_a16_ix (ninS ne_a16_vals (ninS ne_a16_bk (ninS ne_a16_nx nin0)))))
          have F110 := F103.keep Kd4 (ninS ne55 (ninS ne_a31_ix (ninS ne_a31_vals (ninS ne_a31_bk (ninS ne_a31_nx nin0)))))
          refine o_blk (pc' := 160) (st' := [(.int ((Int32.ofNat ((d1 + d2) + d3)) + (Int32.ofNat d4)))]) (ls' := #[.val (.int p0), .val (.int p1), .val (.int p2), .val (.int p3), .val (.int p4), .val (.ref a1), .val (.ref a6), .val (.ref a16), .val (.ref a31), .val (.ref a51), .val (.int (Int32.ofNat (d1 + d2))), .val (.int (1 : Int32)), .unset, .unset]) b0_159_160 rfl ?_
          rw [own_addn ((d1 + d2) + d3) d4]
          refine o_blk (pc' := 162) (st' := []) (ls' := #[.val (.int p0), .val (.int p1), .val (.int p2), .val (.int p3), .val (.int p4), .val (.ref a1), .val (.ref a6), .val (.ref a16), .val (.ref a31), .val (.ref a51), .val (.int (Int32.ofNat (d1 + d2))), .val (.int (1 : Int32)), .val (.int (Int32.ofNat (((d1 + d2) + d3) + d4))), .unset]) b0_160_162 rfl ?_
          refine o_blk (pc' := 164) (st' := [(.ref a51)]) (ls' := #[.val (.int p0), .val (.int p1), .val (.int p2), .val (.int p3), .val (.int p4), .val (.ref a1), .val (.ref a6), .val (.ref a16), .val (.ref a31), .val (.ref a51), .val (.int (Int32.ofNat (d1 + d2))), .val (.int (1 : Int32)), .val (.int (Int32.ofNat (((d1 + d2) + d3) + d4))), .unset]) b0_162_164 rfl ?_
          refine o_callV (W := 0) (argsL := []) (rest := []) (pc' := 167) (own_word hw 98 rfl) (own_word hw 99 rfl) (own_word hw 101 rfl) (own_word hw 101 rfl) (own_word hw 100 rfl) (own_word hw 102 rfl) (own_word hw 3 rfl) (by decide) HId4.exa (fun hE => rm_sr l Z a0 hw h_p4 hE a51 ix al ed vals bk nx ps D0 ((((0 + d1) + d2) + d3) + d4) 0 (Int32.ofNat ((0 + d1) + d2)) HId4) d0_164 pd_0 rfl rfl rfl (Nat.le_of_eq rfl) (by decide) (by decide) (by decide) (by decide) rfl ?_
          rintro _ hsr2 ⟨rfl, HIs2, Ksr2⟩ hs111
          have F112 := F107.keep Ksr2 (ninS ne52 nin0)
          have F113 := F108.keep Ksr2 (ninS ne53 nin0)
          have F114 := F109.keep Ksr2 (ninS ne54 nin0)
          have F115 := F110.keep Ksr2 (ninS ne55 nin0)
          refine o_blk (pc' := 169) (st' := [(.ref a51)]) (ls' := #[.val (.int p0), .val (.int p1), .val (.int p2), .val (.int p3), .val (.int p4), .val (.ref a1), .val (.ref a6), .val (.ref a16), .val (.ref a31), .val (.ref a51), .val (.int (Int32.ofNat (d1 + d2))), .val (.int (1 : Int32)), .val (.int (Int32.ofNat (((d1 + d2) + d3) + d4))), .unset]) b0_167_169 rfl ?_
          refine o_callV (W := 0) (argsL := []) (rest := []) (pc' := 172) (own_word hw 109 rfl) (own_word hw 110 rfl) (own_word hw 112 rfl) (own_word hw 112 rfl) (own_word hw 111 rfl) (own_word hw 113 rfl) (own_word hw 3 rfl) (by decide) HIs2.exa (fun hE => rm_stable l Z a0 hw hsr2 hE a51 ix al ed vals bk nx ps D0 ((((0 + d1) + d2) + d3) + d4) (Int32.ofNat ((0 + d1) + d2)) (Int32.ofNat ((((0 + d1) + d2) + d3) + d4)) HIs2) d0_169 pd_17 rfl rfl rfl (Nat.le_of_eq rfl) (by decide) (by decide) (by decide) (by decide) rfl ?_
          rintro _ _ ⟨rfl, rfl⟩ hs116
          refine o_blk (pc' := 174) (st' := [(.int (Int32.ofNat (d1 + d2))), (.int (Int32.ofNat ((0 + d1) + d2)))]) (ls' := #[.val (.int p0), .val (.int p1), .val (.int p2), .val (.int p3), .val (.int p4), .val (.ref a1), .val (.ref a6), .val (.ref a16), .val (.ref a31), .val (.ref a51), .val (.int (Int32.ofNat (d1 + d2))), .val (.int (1 : Int32)), .val (.int (Int32.ofNat (((d1 + d2) + d3) + d4))), .unset]) b0_172_174 rfl ?_
          refine o_icN (pc' := 177) d0_174 rfl (congrArg Int32.ofNat (by omega) : (Int32.ofNat ((0 + d1) + d2)) = (Int32.ofNat (d1 + d2))) ?_
          refine o_blk (pc' := 179) (st' := [(.ref a51)]) (ls' := #[.val (.int p0), .val (.int p1), .val (.int p2), .val (.int p3), .val (.int p4), .val (.ref a1), .val (.ref a6), .val (.ref a16), .val (.ref a31), .val (.ref a51), .val (.int (Int32.ofNat (d1 + d2))), .val (.int (1 : Int32)), .val (.int (Int32.ofNat (((d1 + d2) + d3) + d4))), .unset]) b0_177_179 rfl ?_
          refine o_callV (W := 0) (argsL := []) (rest := []) (pc' := 182) (own_word hw 114 rfl) (own_word hw 115 rfl) (own_word hw 117 rfl) (own_word hw 117 rfl) (own_word hw 116 rfl) (own_word hw 118 rfl) (own_word hw 3 rfl) (by decide) HIs2.exa (fun hE => rm_known l Z a0 hw hsr2 hE a51 ix al ed vals bk nx ps D0 ((((0 + d1) + d2) + d3) + d4) (Int32.ofNat ((0 + d1) + d2)) (Int32.ofNat ((((0 + d1) + d2) + d3) + d4)) HIs2) d0_179 pd_17 rfl rfl rfl (Nat.le_of_eq rfl) (by decide) (by decide) (by decide) (by decide) rfl ?_
          rintro _ _ ⟨rfl, rfl⟩ hs117
          refine o_blk (pc' := 184) (st' := [(.int (Int32.ofNat (((d1 + d2) + d3) + d4))), (.int (Int32.ofNat ((((0 + d1) + d2) + d3) + d4)))]) (ls' := #[.val (.int p0), .val (.int p1), .val (.int p2), .val (.int p3), .val (.int p4), .val (.ref a1), .val (.ref a6), .val (.ref a16), .val (.ref a31), .val (.ref a51), .val (.int (Int32.ofNat (d1 + d2))), .val (.int (1 : Int32)), .val (.int (Int32.ofNat (((d1 + d2) + d3) + d4))), .unset]) b0_182_184 rfl ?_
          refine o_icN (pc' := 187) d0_184 rfl (congrArg Int32.ofNat (by omega) : (Int32.ofNat ((((0 + d1) + d2) + d3) + d4)) = (Int32.ofNat (((d1 + d2) + d3) + d4))) ?_
          refine o_blk (pc' := 189) (st' := [(.ref a51)]) (ls' := #[.val (.int p0), .val (.int p1), .val (.int p2), .val (.int p3), .val (.int p4), .val (.ref a1), .val (.ref a6), .val (.ref a16), .val (.ref a31), .val (.ref a51), .val (.int (Int32.ofNat (d1 + d2))), .val (.int (1 : Int32)), .val (.int (Int32.ofNat (((d1 + d2) + d3) + d4))), .unset]) b0_187_189 rfl ?_
          refine o_callV (W := 0) (argsL := []) (rest := []) (pc' := 192) (own_word hw 119 rfl) (own_word hw 120 rfl) (own_word hw 122 rfl) (own_word hw 122 rfl) (own_word hw 121 rfl) (own_word hw 123 rfl) (own_word hw 3 rfl) (by decide) HIs2.exa (fun hE => rm_size l Z a0 hw hsr2 hE a51 ix al ed vals bk nx ps D0 ((((0 + d1) + d2) + d3) + d4) (Int32.ofNat ((0 + d1) + d2)) (Int32.ofNat ((((0 + d1) + d2) + d3) + d4)) HIs2) d0_189 pd_17 rfl rfl rfl (Nat.le_of_eq rfl) (by decide) (by decide) (by decide) (by decide) rfl ?_
          rintro _ _ ⟨rfl, rfl⟩ hs118
          refine o_blk (pc' := 194) (st' := [(.int (Int32.ofNat (((d1 + d2) + d3) + d4))), (.int (Int32.ofNat ((((0 + d1) + d2) + d3) + d4)))]) (ls' := #[.val (.int p0), .val (.int p1), .val (.int p2), .val (.int p3), .val (.int p4), .val (.ref a1), .val (.ref a6), .val (.ref a16), .val (.ref a31), .val (.ref a51), .val (.int (Int32.ofNat (d1 + d2))), .val (.int (1 : Int32)), .val (.int (Int32.ofNat (((d1 + d2) + d3) + d4))), .unset]) b0_192_194 rfl ?_
          refine o_icN (pc' := 197) d0_194 rfl (congrArg Int32.ofNat (by omega) : (Int32.ofNat ((((0 + d1) + d2) + d3) + d4)) = (Int32.ofNat (((d1 + d2) + d3) + d4))) ?_
          refine o_blk (pc' := 198) (st' := [(.int (1 : Int32))]) (ls' := #[.val (.int p0), .val (.int p1), .val (.int p2), .val (.int p3), .val (.int p4), .val (.ref a1), .val (.ref a6), .val (.ref a16), .val (.ref a31), .val (.ref a51), .val (.int (Int32.ofNat (d1 + d2))), .val (.int (1 : Int32)), .val (.int (Int32.ofNat (((d1 + d2) + d3) + d4))), .unset]) b0_197_198 rfl ?_
          refine o_goto (pc' := 202) d0_198 (by decide) (by decide) ?_
          refine o_blk (pc' := 204) (st' := []) (ls' := #[.val (.int p0), .val (.int p1), .val (.int p2), .val (.int p3), .val (.int p4), .val (.ref a1), .val (.ref a6), .val (.ref a16), .val (.ref a31), .val (.ref a51), .val (.int (Int32.ofNat (d1 + d2))), .val (.int (1 : Int32)), .val (.int (Int32.ofNat (((d1 + d2) + d3) + d4))), .val (.int (1 : Int32))]) b0_202_204 rfl ?_
          refine o_blk (pc' := 206) (st' := [(.int (1 : Int32))]) (ls' := #[.val (.int p0), .val (.int p1), .val (.int p2), .val (.int p3), .val (.int p4), .val (.ref a1), .val (.ref a6), .val (.ref a16), .val (.ref a31), .val (.ref a51), .val (.int (Int32.ofNat (d1 + d2))), .val (.int (1 : Int32)), .val (.int (Int32.ofNat (((d1 + d2) + d3) + d4))), .val (.int (1 : Int32))]) b0_204_206 rfl ?_
          refine o_ifN (pc' := 209) d0_206 rfl (by decide : ¬ (1 : Int32) = 0) ?_
          refine o_blk (pc' := 211) (st' := [(.int (1 : Int32))]) (ls' := #[.val (.int p0), .val (.int p1), .val (.int p2), .val (.int p3), .val (.int p4), .val (.ref a1), .val (.ref a6), .val (.ref a16), .val (.ref a31), .val (.ref a51), .val (.int (Int32.ofNat (d1 + d2))), .val (.int (1 : Int32)), .val (.int (Int32.ofNat (((d1 + d2) + d3) + d4))), .val (.int (1 : Int32))]) b0_209_211 rfl ?_
          refine o_ifN (pc' := 214) d0_211 rfl (by decide : ¬ (1 : Int32) = 0) ?_
          refine o_blk (pc' := 215) (st' := [(.int (1 : Int32))]) (ls' := #[.val (.int p0), .val (.int p1), .val (.int p2), .val (.int p3), .val (.int p4), .val (.ref a1), .val (.ref a6), .val (.ref a16), .val (.ref a31), .val (.ref a51), .val (.int (Int32.ofNat (d1 + d2))), .val (.int (1 : Int32)), .val (.int (Int32.ofNat (((d1 + d2) + d3) + d4))), .val (.int (1 : Int32))]) b0_214_215 rfl ?_
          refine o_goto (pc' := 219) d0_215 (by decide) (by decide) ?_
          exact o_retZ (w := 0) d0_219 (by decide) (by decide) rfl (by decide) rfl
        refine o_if (pc' := 153) (pc'' := 149) d0_146 (by decide) (by decide) rfl (fun (hc146_104 : (p4 &&& (8 : Int32)) = 0) => ?_) (fun (hc146_104 : ¬ (p4 &&& (8 : Int32)) = 0) => ?_)
        ·
          refine o_blk (pc' := 154) (st' := [(.int (0 : Int32)), (.ref a51), (.int (Int32.ofNat ((d1 + d2) + d3)))]) (ls' := #[.val (.int p0), .val (.int p1), .val (.int p2), .val (.int p3), .val (.int p4), .val (.ref a1), .val (.ref a6), .val (.ref a16), .val (.ref a31), .val (.ref a51), .val (.int (Int32.ofNat (d1 + d2))), .val (.int (1 : Int32)), .unset, .unset]) b0_153_154 rfl ?_
          exact J154_105 _
        ·
          refine o_blk (pc' := 150) (st' := [(.int (1 : Int32)), (.ref a51), (.int (Int32.ofNat ((d1 + d2) + d3)))]) (ls' := #[.val (.int p0), .val (.int p1), .val (.int p2), .val (.int p3), .val (.int p4), .val (.ref a1), .val (.ref a6), .val (.ref a16), .val (.ref a31), .val (.ref a51), .val (.int (Int32.ofNat (d1 + d2))), .val (.int (1 : Int32)), .unset, .unset]) b0_149_150 rfl ?_
          refine o_goto (pc' := 154) d0_150 (by decide) (by decide) ?_
          exact J154_105 _
      refine o_if (pc' := 132) (pc'' := 128) d0_125 (by decide) (by decide) rfl (fun (hc125_97 : (p4 &&& (4 : Int32)) = 0) => ?_) (fun (hc125_97 : ¬ (p4 &&& (4 : Int32)) = 0) => ?_)
      ·
        refine o_blk (pc' := 133) (st' := [(.int (0 : Int32)), (.ref a51), (.int (Int32.ofNat (d1 + d2)))]) (ls' := #[.val (.int p0), .val (.int p1), .val (.int p2), .val (.int p3), .val (.int p4), .val (.ref a1), .val (.ref a6), .val (.ref a16), .val (.ref a31), .val (.ref a51), .val (.int (Int32.ofNat (d1 + d2))), .val (.int (1 : Int32)), .unset, .unset]) b0_132_133 rfl ?_
        exact J133_98 _
      ·
        refine o_blk (pc' := 129) (st' := [(.int (1 : Int32)), (.ref a51), (.int (Int32.ofNat (d1 + d2)))]) (ls' := #[.val (.int p0), .val (.int p1), .val (.int p2), .val (.int p3), .val (.int p4), .val (.ref a1), .val (.ref a6), .val (.ref a16), .val (.ref a31), .val (.ref a51), .val (.int (Int32.ofNat (d1 + d2))), .val (.int (1 : Int32)), .unset, .unset]) b0_128_129 rfl ?_
        refine o_goto (pc' := 133) d0_129 (by decide) (by decide) ?_
        exact J133_98 _
    refine o_if (pc' := 78) (pc'' := 74) d0_71 (by decide) (by decide) rfl (fun (hc71_83 : (p4 &&& (2 : Int32)) = 0) => ?_) (fun (hc71_83 : ¬ (p4 &&& (2 : Int32)) = 0) => ?_)
    ·
      refine o_blk (pc' := 79) (st' := [(.int (0 : Int32)), (.ref a51), (.int (Int32.ofNat d1))]) (ls' := #[.val (.int p0), .val (.int p1), .val (.int p2), .val (.int p3), .val (.int p4), .val (.ref a1), .val (.ref a6), .val (.ref a16), .val (.ref a31), .val (.ref a51), .unset, .unset, .unset, .unset]) b0_78_79 rfl ?_
      exact J79_84 _
    ·
      refine o_blk (pc' := 75) (st' := [(.int (1 : Int32)), (.ref a51), (.int (Int32.ofNat d1))]) (ls' := #[.val (.int p0), .val (.int p1), .val (.int p2), .val (.int p3), .val (.int p4), .val (.ref a1), .val (.ref a6), .val (.ref a16), .val (.ref a31), .val (.ref a51), .unset, .unset, .unset, .unset]) b0_74_75 rfl ?_
      refine o_goto (pc' := 79) d0_75 (by decide) (by decide) ?_
      exact J79_84 _
  refine o_if (pc' := 59) (pc'' := 55) d0_52 (by decide) (by decide) rfl (fun (hc52_76 : (p4 &&& (1 : Int32)) = 0) => ?_) (fun (hc52_76 : ¬ (p4 &&& (1 : Int32)) = 0) => ?_)
  ·
    refine o_blk (pc' := 60) (st' := [(.int (0 : Int32)), (.ref a51)]) (ls' := #[.val (.int p0), .val (.int p1), .val (.int p2), .val (.int p3), .val (.int p4), .val (.ref a1), .val (.ref a6), .val (.ref a16), .val (.ref a31), .val (.ref a51), .unset, .unset, .unset, .unset]) b0_59_60 rfl ?_
    exact J60_77 _
  ·
    refine o_blk (pc' := 56) (st' := [(.int (1 : Int32)), (.ref a51)]) (ls' := #[.val (.int p0), .val (.int p1), .val (.int p2), .val (.int p3), .val (.int p4), .val (.ref a1), .val (.ref a6), .val (.ref a16), .val (.ref a31), .val (.ref a51), .unset, .unset, .unset, .unset]) b0_55_56 rfl ?_
    refine o_goto (pc' := 60) d0_56 (by decide) (by decide) ?_
    exact J60_77 _
set_option maxRecDepth 65536 in
set_option maxHeartbeats 40000000 in
theorem comes_1 {Post : Tables → Env → Array Value → State → Outcome → State → Prop} (hpost : ∀ tb e args s v u, (limb_1_1.after args s (.returned v) u = true ∧ limb_1_2.after args s (.returned v) u = true ∧ True) → FrameEnd s (.returned v) u (Jvm.fieldLocs frame_1_writes args s ++ Jvm.arrayLocs frame_1_arrays args s ++ Jvm.staticLocs frame_1_statics s) 48 256 → Post tb e args s (.returned v) u) :
    ArmFor flags0 classFile x code maxLocals ret World_1 tables_1 room_1 Calls_1 rest_1 Pre_1 Post := by
  intro l hfl _ _ p e ha hc hk s m args below hf hA hF happ hP
  obtain ⟨hcalls, hrest, hpre⟩ := hP
  obtain ⟨-, -, -, hnamed, -, -, -, hat⟩ := (Spec.applies_iff hf).mp happ
  obtain ⟨hg, hn⟩ := and_e (Cond.before_iff.mp (show (Jvm.Cond.and given_1 narrow_1).before args s = true from hpre))
  obtain ⟨g0, hg⟩ := and_e hg
  obtain ⟨k0, hg⟩ := and_e hg
  obtain ⟨k1, hg⟩ := and_e hg
  obtain ⟨k2, hg⟩ := and_e hg
  obtain ⟨k3, hg⟩ := and_e hg
  have k4 := hg
  obtain ⟨w0, w1, w2, w3, w4, rfl⟩ : ∃ w0 w1 w2 w3 w4 : Value, args = #[w0, w1, w2, w3, w4] := by
    have hs : args.size = 5 := by simpa [Cond.value, given_1] using g0
    obtain ⟨L⟩ := args
    match L, hs with
    | [w0, w1, w2, w3, w4], _ => exact ⟨w0, w1, w2, w3, w4, rfl⟩
  have hw := fun d (hd : d ∈ tables_1) => atoms_spec (ws := Jvm.Cond.code x code maxLocals ret :: tables_1) hat d (List.mem_cons_of_mem _ hd)
  have hfit : Fit s := fun {y c} hc i hi => by
    obtain ⟨ha, rfl⟩ := Array.getElem?_eq_some_iff.mp hc
    have q := List.all_eq_true.mp ((Array.all_eq_true_iff_forall_mem.mp hF) _ (Array.getElem_mem ha)) i (List.mem_range.mpr hi)
    simpa [Array.getElem?_eq_getElem hi] using q
  obtain ⟨i0, e0⟩ := is_v k0
  obtain rfl : w0 = (.int i0) := Option.some.inj e0
  obtain ⟨i1, e1⟩ := is_v k1
  obtain rfl : w1 = (.int i1) := Option.some.inj e1
  obtain ⟨i2, e2⟩ := is_v k2
  obtain rfl : w2 = (.int i2) := Option.some.inj e2
  obtain ⟨i3, e3⟩ := is_v k3
  obtain rfl : w3 = (.int i3) := Option.some.inj e3
  obtain ⟨i4, e4⟩ := is_v k4
  obtain rfl : w4 = (.int i4) := Option.some.inj e4
  obtain ⟨n, o, h1, h2, h3, _, L, rfl, ⟨⟨rfl, _⟩, N⟩, hq⟩ := rm_law l s _ hw i0 i1 i2 i3 i4 s.heap ⟨Nat.le_refl _, fun _ _ q => q⟩ tables_1 p e ha hc hk s m _ below hf ((Spec.applies_iff_loose hf).mp happ).1 ⟨rfl, State.Warmed39.refl s, rfl⟩ trivial
  refine ⟨n, _, h1, h2, h3, hpost _ _ _ _ _ _ ⟨Cond.after_iff.mpr rfl, Cond.after_iff.mpr (eq_i res_at (Term.int_eval (1)) rfl), trivial⟩ ⟨hq.1, hq.2.1, (hq.2.2.sift fun y hy => Or.inr (N y hy)).mono (by decide) (by decide)⟩⟩
theorem main_1_1 : Claimed_1_1 := comes_1 fun _ _ _ _ _ _ h hF => ⟨h.1, hF⟩
theorem main_1_2 : Claimed_1_2 := comes_1 fun _ _ _ _ _ _ h hF => ⟨h.2.1, hF⟩
end Jvm.Pilot.@@N@@
namespace Jvm.Pilot.@@N@@
open Jvm Jvm.ClassFile Sem Op Lib Jvm.Free Jvm.Stand Jvm.Pilot.@@N@@.Jvm.D
/-! MADE BY PROGRAM (witnessworld.py) out of the Statement's table words and the real class files: 24 classes; the members and pool entries that the words name. The judged class is class 1, her method 2. -/
namespace start1
open Jvm.ClassFile
def u (s : String) : CpInfo := .utf8 (stringToUtf16 s)
/-- a pool by its gaps: so many unusable entries, then the entry; so many at the end -/
def gap : Nat → List CpInfo → List CpInfo
  | 0, r => r
  | n + 1, r => .unusable :: gap n r
def poolList (es : List (Nat × CpInfo)) (last : Nat) : List CpInfo := es.foldr (fun e r => gap e.1 (e.2 :: r)) (gap last [])
def pool (es : List (Nat × CpInfo)) (last : Nat) : Array CpInfo := ⟨poolList es last⟩
def fileOf (pool : Array CpInfo) (this : Nat) (attrs : Array Attribute := #[]) (ms : Array MethodInfo := #[]) (fl : Nat := 33) (sup : Nat := 0) (ifs : Array Nat := #[]) (fds : Array FieldInfo := #[]) : ClassFile where
  minorVersion := 0
  majorVersion := 65
  constantPool := pool
  accessFlags := fl
  thisClass := this
  superClass := sup
  interfaces := ifs
  fields := fds
  methods := ms
  attributes := attrs
def plain (name : String) (sup : Option ClassId) : Class where
  name := name
  kind := .ordinary
  loader := none
  accessFlags := 33
  super := sup
  interfaces := #[]
  cf := none
  fields := #[]
  methods := #[]
  instanceTypes := #[]
  staticTypes := #[]
  resolved := #[]
  callSites := []
  init := .initialized
  statics := none
  mirror := none

def pool0 : Array CpInfo := pool [(5, u "<init>"), (0, u "()V"), (1, .class_ 10), (1, u "java/lang/Object"), (85, u "clone"), (0, u "()Ljava/lang/Object;")] 26

def k0c0 : Code := { maxStack := 0, maxLocals := 1, code := object_method_1_code, exceptionTable := #[], attributes := #[] }
def k0m0 : Method := { name := "<init>", desc := "()V", sig := { parameters := [], returnType := none }, accessFlags := 1, code := some k0c0 }
def k0m1 : Method := { name := "clone", desc := "()Ljava/lang/Object;", sig := { parameters := [], returnType := some (.object "java/lang/Object") }, accessFlags := 260, code := none }
/-- java/lang/Object -/
def k0 : Class := { plain "java/lang/Object" none with
  accessFlags := 33
  interfaces := #[]
  cf := some (fileOf pool0 8 #[] #[{ accessFlags := 1, nameIndex := 5, descriptorIndex := 6, attributes := #[] }, { accessFlags := 260, nameIndex := 96, descriptorIndex := 97, attributes := #[] }] 33 0 #[] #[])
  fields := #[]
  methods := #[k0m0, k0m1]
  instanceTypes := #[]
  staticTypes := #[]
  resolved := Array.replicate 124 none
  statics := none }

def pool1 : Array CpInfo := pool [(2, .class_ 4), (1, u "java/lang/Object"), (0, u "<init>"), (0, u "()V"), (0, .methodref 8 9), (0, .class_ 10), (0, .nameAndType 11 12), (0, u "com/example/mild_horn/mildhorn/datalog/Relation"), (0, u "add"), (0, u "([I)Z"), (0, .methodref 8 14), (0, .nameAndType 5 15), (0, u "(I)V"), (0, .methodref 17 18), (0, .class_ 19), (0, .nameAndType 20 21), (0, u "com/example/mild_horn/mildhorn/datalog/RelationStartRoundPinLaw"), (0, u "put"), (0, u "(Lcom/example/mild_horn/mildhorn/datalog/Relation;Z[I)I"), (0, .methodref 8 23), (0, .nameAndType 24 6), (0, u "startRound"), (0, .methodref 8 26), (0, .nameAndType 27 28), (0, u "stable"), (0, u "()I"), (0, .methodref 8 30), (0, .nameAndType 31 28), (0, u "known"), (0, .methodref 8 33), (0, .nameAndType 34 28), (0, u "size"), (3, u "law"), (0, u "(IIIII)Z")] 4

def k1m0 : Method := { name := "<init>", desc := "()V", sig := { parameters := [], returnType := none }, accessFlags := 1, code := none }
def k1c1 : Code := { maxStack := 2, maxLocals := 3, code := method_2_code, exceptionTable := #[], attributes := #[] }
def k1m1 : Method := { name := "put", desc := "(Lcom/example/mild_horn/mildhorn/datalog/Relation;Z[I)I", sig := { parameters := [(.object "com/example/mild_horn/mildhorn/datalog/Relation"), .boolean, (.array .int)], returnType := some .int }, accessFlags := 10, code := some k1c1 }
def k1c2 : Code := { maxStack := 4, maxLocals := 14, code := code, exceptionTable := #[], attributes := #[] }
def k1m2 : Method := { name := "law", desc := "(IIIII)Z", sig := { parameters := [.int, .int, .int, .int, .int], returnType := some .boolean }, accessFlags := 9, code := some k1c2 }
/-- com/example/mild_horn/mildhorn/datalog/RelationStartRoundPinLaw -/
def k1 : Class := { plain "com/example/mild_horn/mildhorn/datalog/RelationStartRoundPinLaw" (some 0) with
  accessFlags := 49
  interfaces := #[]
  cf := some (fileOf pool1 17 #[] #[{ accessFlags := 1, nameIndex := 5, descriptorIndex := 6, attributes := #[] }, { accessFlags := 10, nameIndex := 20, descriptorIndex := 21, attributes := #[] }, { accessFlags := 9, nameIndex := 38, descriptorIndex := 39, attributes := #[] }] 49 2 #[] #[])
  fields := #[]
  methods := #[k1m0, k1m1, k1m2]
  instanceTypes := #[]
  staticTypes := #[]
  resolved := Array.replicate 44 none
  statics := none }

def pool2 : Array CpInfo := pool [(1, .methodref 2 3), (0, .class_ 4), (0, .nameAndType 5 6), (0, u "java/lang/Object"), (0, u "<init>"), (0, u "()V"), (0, .class_ 8), (0, u "java/util/ArrayList"), (0, .methodref 7 10), (0, .nameAndType 5 11), (0, u "(I)V"), (0, .fieldref 13 14), (0, .class_ 15), (0, .nameAndType 16 17), (0, u "com/example/mild_horn/mildhorn/datalog/Relation"), (0, u "indexes"), (0, u "Ljava/util/List;"), (0, .fieldref 13 19), (0, .nameAndType 20 21), (0, u "arity"), (0, u "I"), (0, .methodref 23 24), (0, .class_ 25), (0, .nameAndType 26 27), (0, u "java/lang/Math"), (0, u "max"), (0, u "(II)I"), (0, .fieldref 13 29), (0, .nameAndType 30 31), (0, u "values"), (0, u "[I"), (0, .class_ 33), (0, u "com/example/mild_horn/mildhorn/datalog/Relation$Index"), (0, .methodref 32 35), (0, .nameAndType 5 36), (0, u "(Lcom/example/mild_horn/mildhorn/datalog/Relation;[I)V"), (0, .fieldref 13 38), (0, .nameAndType 39 40), (0, u "all"), (0, u "Lcom/example/mild_horn/mildhorn/datalog/Relation$Index;"), (0, .interfaceMethodref 42 43), (0, .class_ 44), (0, .nameAndType 45 46), (0, u "java/util/List"), (0, u "add"), (0, u "(Ljava/lang/Object;)Z"), (0, .fieldref 13 48), (0, .nameAndType 49 21), (0, u "size"), (0, .fieldref 13 51), (0, .nameAndType 52 21), (0, u "stable"), (0, .fieldref 13 54), (0, .nameAndType 55 21), (0, u "known"), (0, .methodref 13 57), (0, .nameAndType 58 59), (0, u "find"), (0, u "(Lcom/example/mild_horn/mildhorn/datalog/Relation$Index;[II)I"), (6, .methodref 67 68), (0, .class_ 69), (0, .nameAndType 70 71), (0, u "java/lang/System"), (0, u "arraycopy"), (0, u "(Ljava/lang/Object;ILjava/lang/Object;II)V"), (0, .interfaceMethodref 42 73), (0, .nameAndType 74 75), (0, u "iterator"), (0, u "()Ljava/util/Iterator;"), (0, .interfaceMethodref 77 78), (0, .class_ 79), (0, .nameAndType 80 81), (0, u "java/util/Iterator"), (0, u "hasNext"), (0, u "()Z"), (0, .interfaceMethodref 77 83), (0, .nameAndType 84 85), (0, u "next"), (0, u "()Ljava/lang/Object;"), (0, .methodref 32 87), (0, .nameAndType 88 11), (0, u "link"), (13, .fieldref 32 103), (0, .nameAndType 104 31), (0, u "buckets"), (0, .methodref 13 106), (0, .nameAndType 107 108), (0, u "hashKey"), (0, u "([I)I"), (0, .methodref 13 110), (0, .nameAndType 111 27), (0, u "bucket"), (0, .methodref 32 113), (0, .nameAndType 114 115), (0, u "matches"), (0, u "(I[I)Z"), (0, .fieldref 32 117), (0, .nameAndType 84 31), (0, .integer 2654435761), (0, u "NONE"), (2, u "MIX"), (6, u "()I"), (0, u "startRound"), (0, u "value"), (0, u "([I)Z")] 9

def k2c0 : Code := { maxStack := 5, maxLocals := 4, code := prog_24_method_1_code, exceptionTable := #[], attributes := #[] }
def k2m0 : Method := { name := "<init>", desc := "(I)V", sig := { parameters := [.int], returnType := none }, accessFlags := 0, code := some k2c0 }
def k2c1 : Code := { maxStack := 1, maxLocals := 1, code := prog_24_method_3_code, exceptionTable := #[], attributes := #[] }
def k2m1 : Method := { name := "size", desc := "()I", sig := { parameters := [], returnType := some .int }, accessFlags := 0, code := some k2c1 }
def k2c2 : Code := { maxStack := 1, maxLocals := 1, code := prog_24_method_4_code, exceptionTable := #[], attributes := #[] }
def k2m2 : Method := { name := "stable", desc := "()I", sig := { parameters := [], returnType := some .int }, accessFlags := 0, code := some k2c2 }
def k2c3 : Code := { maxStack := 1, maxLocals := 1, code := prog_24_method_5_code, exceptionTable := #[], attributes := #[] }
def k2m3 : Method := { name := "known", desc := "()I", sig := { parameters := [], returnType := some .int }, accessFlags := 0, code := some k2c3 }
def k2c4 : Code := { maxStack := 2, maxLocals := 1, code := prog_24_method_6_code, exceptionTable := #[], attributes := #[] }
def k2m4 : Method := { name := "startRound", desc := "()V", sig := { parameters := [], returnType := none }, accessFlags := 0, code := some k2c4 }
def k2c5 : Code := { maxStack := 3, maxLocals := 3, code := prog_24_method_7_code, exceptionTable := #[], attributes := #[] }
def k2m5 : Method := { name := "value", desc := "(II)I", sig := { parameters := [.int, .int], returnType := some .int }, accessFlags := 0, code := some k2c5 }
def k2c6 : Code := { maxStack := 5, maxLocals := 5, code := prog_24_method_8_code, exceptionTable := #[], attributes := #[] }
def k2m6 : Method := { name := "add", desc := "([I)Z", sig := { parameters := [(.array .int)], returnType := some .boolean }, accessFlags := 0, code := some k2c6 }
def k2c7 : Code := { maxStack := 3, maxLocals := 5, code := prog_24_method_11_code, exceptionTable := #[], attributes := #[] }
def k2m7 : Method := { name := "find", desc := "(Lcom/example/mild_horn/mildhorn/datalog/Relation$Index;[II)I", sig := { parameters := [(.object "com/example/mild_horn/mildhorn/datalog/Relation$Index"), (.array .int), .int], returnType := some .int }, accessFlags := 0, code := some k2c7 }
def k2c8 : Code := { maxStack := 2, maxLocals := 6, code := prog_24_method_13_code, exceptionTable := #[], attributes := #[] }
def k2m8 : Method := { name := "hashKey", desc := "([I)I", sig := { parameters := [(.array .int)], returnType := some .int }, accessFlags := 10, code := some k2c8 }
def k2c9 : Code := { maxStack := 3, maxLocals := 2, code := prog_24_method_14_code, exceptionTable := #[], attributes := #[] }
def k2m9 : Method := { name := "bucket", desc := "(II)I", sig := { parameters := [.int, .int], returnType := some .int }, accessFlags := 10, code := some k2c9 }
/-- com/example/mild_horn/mildhorn/datalog/Relation -/
def k2 : Class := { plain "com/example/mild_horn/mildhorn/datalog/Relation" (some 0) with
  accessFlags := 48
  interfaces := #[]
  cf := some (fileOf pool2 13 #[.nestMembers #[32]] #[{ accessFlags := 0, nameIndex := 5, descriptorIndex := 11, attributes := #[] }, { accessFlags := 0, nameIndex := 49, descriptorIndex := 129, attributes := #[] }, { accessFlags := 0, nameIndex := 52, descriptorIndex := 129, attributes := #[] }, { accessFlags := 0, nameIndex := 55, descriptorIndex := 129, attributes := #[] }, { accessFlags := 0, nameIndex := 130, descriptorIndex := 6, attributes := #[] }, { accessFlags := 0, nameIndex := 131, descriptorIndex := 27, attributes := #[] }, { accessFlags := 0, nameIndex := 45, descriptorIndex := 132, attributes := #[] }, { accessFlags := 0, nameIndex := 58, descriptorIndex := 59, attributes := #[] }, { accessFlags := 10, nameIndex := 107, descriptorIndex := 108, attributes := #[] }, { accessFlags := 10, nameIndex := 111, descriptorIndex := 27, attributes := #[] }] 48 2 #[] #[{ accessFlags := 26, nameIndex := 119, descriptorIndex := 21, attributes := #[] }, { accessFlags := 26, nameIndex := 122, descriptorIndex := 21, attributes := #[] }, { accessFlags := 18, nameIndex := 20, descriptorIndex := 21, attributes := #[] }, { accessFlags := 2, nameIndex := 30, descriptorIndex := 31, attributes := #[] }, { accessFlags := 2, nameIndex := 49, descriptorIndex := 21, attributes := #[] }, { accessFlags := 2, nameIndex := 52, descriptorIndex := 21, attributes := #[] }, { accessFlags := 2, nameIndex := 55, descriptorIndex := 21, attributes := #[] }, { accessFlags := 18, nameIndex := 39, descriptorIndex := 40, attributes := #[] }, { accessFlags := 18, nameIndex := 16, descriptorIndex := 17, attributes := #[] }])
  fields := #[{ name := "NONE", type := .int, accessFlags := 26, slot := 0, constantValue := 0 }, { name := "MIX", type := .int, accessFlags := 26, slot := 1, constantValue := 0 }, { name := "arity", type := .int, accessFlags := 18, slot := 0, constantValue := 0 }, { name := "values", type := (.array .int), accessFlags := 2, slot := 1, constantValue := 0 }, { name := "size", type := .int, accessFlags := 2, slot := 2, constantValue := 0 }, { name := "stable", type := .int, accessFlags := 2, slot := 3, constantValue := 0 }, { name := "known", type := .int, accessFlags := 2, slot := 4, constantValue := 0 }, { name := "all", type := (.object "com/example/mild_horn/mildhorn/datalog/Relation$Index"), accessFlags := 18, slot := 5, constantValue := 0 }, { name := "indexes", type := (.object "java/util/List"), accessFlags := 18, slot := 6, constantValue := 0 }]
  methods := #[k2m0, k2m1, k2m2, k2m3, k2m4, k2m5, k2m6, k2m7, k2m8, k2m9]
  instanceTypes := #[.int, (.array .int), .int, .int, .int, (.object "com/example/mild_horn/mildhorn/datalog/Relation$Index"), (.object "java/util/List")]
  staticTypes := #[.int, .int]
  resolved := ((((((Array.replicate 142 none).setIfInBounds 32 (some (.cls 14))).setIfInBounds 34 (some (.method ⟨14, 0⟩))).setIfInBounds 86 (some (.method ⟨14, 1⟩))).setIfInBounds 112 (some (.method ⟨14, 3⟩))).setIfInBounds 102 (some (.field 14 1))).setIfInBounds 116 (some (.field 14 2))
  statics := none }

def pool3 : Array CpInfo := pool [(8, .class_ 10), (1, u "java/lang/Iterable"), (24, .class_ 36), (0, u "java/lang/Object")] 25

/-- java/lang/Iterable -/
def k3 : Class := { plain "java/lang/Iterable" (some 0) with
  accessFlags := 1537
  interfaces := #[]
  cf := some (fileOf pool3 8 #[] #[] 1537 35 #[] #[])
  fields := #[]
  methods := #[]
  instanceTypes := #[]
  staticTypes := #[]
  resolved := Array.replicate 62 none
  statics := none }

def pool4 : Array CpInfo := pool [(10, .class_ 12), (1, u "java/util/Collection"), (47, .class_ 61), (0, u "java/lang/Object"), (0, .class_ 63), (0, u "java/lang/Iterable")] 51

/-- java/util/Collection -/
def k4 : Class := { plain "java/util/Collection" (some 0) with
  accessFlags := 1537
  interfaces := #[3]
  cf := some (fileOf pool4 10 #[] #[] 1537 60 #[62] #[])
  fields := #[]
  methods := #[]
  instanceTypes := #[]
  staticTypes := #[]
  resolved := Array.replicate 115 none
  statics := none }

def pool5 : Array CpInfo := pool [(1, .methodref 2 3), (0, .class_ 4), (0, .nameAndType 5 6), (0, u "java/lang/Object"), (0, u "<init>"), (0, u "()V"), (1, .class_ 10), (1, u "java/util/AbstractCollection"), (66, .class_ 78), (0, u "java/util/Collection")] 81

def k5c0 : Code := { maxStack := 1, maxLocals := 1, code := jdk_22_method_1_code, exceptionTable := #[], attributes := #[] }
def k5m0 : Method := { name := "<init>", desc := "()V", sig := { parameters := [], returnType := none }, accessFlags := 4, code := some k5c0 }
/-- java/util/AbstractCollection -/
def k5 : Class := { plain "java/util/AbstractCollection" (some 0) with
  accessFlags := 1057
  interfaces := #[4]
  cf := some (fileOf pool5 8 #[] #[{ accessFlags := 4, nameIndex := 5, descriptorIndex := 6, attributes := #[] }] 1057 2 #[77] #[])
  fields := #[]
  methods := #[k5m0]
  instanceTypes := #[]
  staticTypes := #[]
  resolved := Array.replicate 160 none
  statics := none }

def pool6 : Array CpInfo := pool [(8, .class_ 10), (1, u "java/util/SequencedCollection"), (15, .class_ 27), (0, u "java/lang/Object"), (0, .class_ 29), (0, u "java/util/Collection")] 27

/-- java/util/SequencedCollection -/
def k6 : Class := { plain "java/util/SequencedCollection" (some 0) with
  accessFlags := 1537
  interfaces := #[4]
  cf := some (fileOf pool6 8 #[] #[] 1537 26 #[28] #[])
  fields := #[]
  methods := #[]
  instanceTypes := #[]
  staticTypes := #[]
  resolved := Array.replicate 57 none
  statics := none }

def pool7 : Array CpInfo := pool [(8, .class_ 10), (1, u "java/util/List"), (49, u "add"), (3, u "(Ljava/lang/Object;)Z"), (38, .class_ 104), (0, u "java/lang/Object"), (15, .class_ 121), (0, u "java/util/SequencedCollection"), (1, u "iterator"), (0, u "()Ljava/util/Iterator;")] 126

def k7m0 : Method := { name := "iterator", desc := "()Ljava/util/Iterator;", sig := { parameters := [], returnType := some (.object "java/util/Iterator") }, accessFlags := 1025, code := none }
def k7m1 : Method := { name := "add", desc := "(Ljava/lang/Object;)Z", sig := { parameters := [(.object "java/lang/Object")], returnType := some .boolean }, accessFlags := 1025, code := none }
/-- java/util/List -/
def k7 : Class := { plain "java/util/List" (some 0) with
  accessFlags := 1537
  interfaces := #[6]
  cf := some (fileOf pool7 8 #[] #[{ accessFlags := 1025, nameIndex := 123, descriptorIndex := 124, attributes := #[] }, { accessFlags := 1025, nameIndex := 60, descriptorIndex := 64, attributes := #[] }] 1537 103 #[120] #[])
  fields := #[]
  methods := #[k7m0, k7m1]
  instanceTypes := #[]
  staticTypes := #[]
  resolved := Array.replicate 251 none
  statics := none }

def pool8 : Array CpInfo := pool [(1, .methodref 2 3), (0, .class_ 4), (0, .nameAndType 5 6), (0, u "java/util/AbstractCollection"), (0, u "<init>"), (0, u "()V"), (0, .fieldref 8 9), (0, .class_ 10), (0, .nameAndType 11 12), (0, u "java/util/AbstractList"), (0, u "modCount"), (0, u "I"), (64, .class_ 78), (0, u "java/util/AbstractList$Itr"), (3, .class_ 83), (0, u "java/util/AbstractList$ListItr"), (9, .class_ 94), (0, u "java/util/AbstractList$RandomAccessSubList"), (3, .class_ 99), (0, u "java/util/AbstractList$SubList"), (33, .class_ 134), (0, u "java/util/List"), (73, .class_ 209), (0, u "java/util/AbstractList$SubList$1"), (0, .class_ 211), (0, u "java/util/AbstractList$RandomAccessSpliterator")] 6

def k8c0 : Code := { maxStack := 2, maxLocals := 1, code := jdk_39_method_1_code, exceptionTable := #[], attributes := #[] }
def k8m0 : Method := { name := "<init>", desc := "()V", sig := { parameters := [], returnType := none }, accessFlags := 4, code := some k8c0 }
/-- java/util/AbstractList -/
def k8 : Class := { plain "java/util/AbstractList" (some 5) with
  accessFlags := 1057
  interfaces := #[7]
  cf := some (fileOf pool8 8 #[.nestMembers #[93, 98, 208, 210, 82, 77]] #[{ accessFlags := 4, nameIndex := 5, descriptorIndex := 6, attributes := #[] }] 1057 2 #[133] #[{ accessFlags := 132, nameIndex := 11, descriptorIndex := 12, attributes := #[] }])
  fields := #[{ name := "modCount", type := .int, accessFlags := 132, slot := 0, constantValue := 0 }]
  methods := #[k8m0]
  instanceTypes := #[.int]
  staticTypes := #[]
  resolved := Array.replicate 218 none
  statics := none }

def pool9 : Array CpInfo := pool [(1, .class_ 2), (0, u "java/util/RandomAccess"), (0, .class_ 4), (0, u "java/lang/Object")] 2

/-- java/util/RandomAccess -/
def k9 : Class := { plain "java/util/RandomAccess" (some 0) with
  accessFlags := 1537
  interfaces := #[]
  cf := some (fileOf pool9 1 #[] #[] 1537 3 #[] #[])
  fields := #[]
  methods := #[]
  instanceTypes := #[]
  staticTypes := #[]
  resolved := Array.replicate 7 none
  statics := none }

def pool10 : Array CpInfo := pool [(1, .class_ 2), (0, u "java/lang/Cloneable"), (0, .class_ 4), (0, u "java/lang/Object")] 2

/-- java/lang/Cloneable -/
def k10 : Class := { plain "java/lang/Cloneable" (some 0) with
  accessFlags := 1537
  interfaces := #[]
  cf := some (fileOf pool10 1 #[] #[] 1537 3 #[] #[])
  fields := #[]
  methods := #[]
  instanceTypes := #[]
  staticTypes := #[]
  resolved := Array.replicate 7 none
  statics := none }

def pool11 : Array CpInfo := pool [(1, .class_ 2), (0, u "java/io/Serializable"), (0, .class_ 4), (0, u "java/lang/Object")] 2

/-- java/io/Serializable -/
def k11 : Class := { plain "java/io/Serializable" (some 0) with
  accessFlags := 1537
  interfaces := #[]
  cf := some (fileOf pool11 1 #[] #[] 1537 3 #[] #[])
  fields := #[]
  methods := #[]
  instanceTypes := #[]
  staticTypes := #[]
  resolved := Array.replicate 7 none
  statics := none }

def pool12 : Array CpInfo := pool [(1, .methodref 2 3), (0, .class_ 4), (0, .nameAndType 5 6), (0, u "java/util/AbstractList"), (0, u "<init>"), (0, u "()V"), (0, .class_ 8), (0, u "java/lang/Object"), (0, .fieldref 10 11), (0, .class_ 12), (0, .nameAndType 13 14), (0, u "java/util/ArrayList"), (0, u "elementData"), (0, u "[Ljava/lang/Object;"), (2, u "EMPTY_ELEMENTDATA"), (23, u "DEFAULTCAPACITY_EMPTY_ELEMENTDATA"), (6, .fieldref 10 49), (0, .nameAndType 50 51), (0, u "size"), (0, u "I"), (11, .fieldref 10 64), (0, .nameAndType 65 51), (0, u "modCount"), (30, u "(Ljava/lang/Object;)Z"), (34, .methodref 10 132), (0, .nameAndType 133 134), (0, u "add"), (0, u "(Ljava/lang/Object;[Ljava/lang/Object;I)V"), (3, u "(I)V"), (9, .class_ 149), (0, u "java/util/List"), (16, u "iterator"), (0, u "()Ljava/util/Iterator;"), (94, .class_ 263), (0, u "java/util/ArrayList$ListItr"), (3, .class_ 268), (0, u "java/util/ArrayList$Itr"), (0, .methodref 267 270), (0, .nameAndType 5 271), (0, u "(Ljava/util/ArrayList;)V"), (4, .class_ 277), (0, u "java/util/ArrayList$SubList"), (12, .class_ 291), (0, u "java/util/ArrayList$ArrayListSpliterator"), (37, .class_ 330), (0, u "java/util/RandomAccess"), (0, .class_ 332), (0, u "java/lang/Cloneable"), (0, .class_ 334), (0, u "java/io/Serializable"), (0, u "serialVersionUID"), (0, u "J"), (3, u "DEFAULT_CAPACITY"), (159, .class_ 501), (0, u "java/util/ArrayList$SubList$2"), (0, .class_ 503), (0, u "java/util/ArrayList$SubList$1")] 5

def k12c0 : Code := { maxStack := 4, maxLocals := 2, code := jdk_38_method_1_code, exceptionTable := #[], attributes := #[] }
def k12m0 : Method := { name := "<init>", desc := "(I)V", sig := { parameters := [.int], returnType := none }, accessFlags := 1, code := some k12c0 }
def k12m1 : Method := { name := "<init>", desc := "()V", sig := { parameters := [], returnType := none }, accessFlags := 1, code := none }
def k12c2 : Code := { maxStack := 3, maxLocals := 4, code := jdk_38_method_24_code, exceptionTable := #[], attributes := #[] }
def k12m2 : Method := { name := "add", desc := "(Ljava/lang/Object;[Ljava/lang/Object;I)V", sig := { parameters := [(.object "java/lang/Object"), (.array (.object "java/lang/Object")), .int], returnType := none }, accessFlags := 2, code := some k12c2 }
def k12c3 : Code := { maxStack := 4, maxLocals := 2, code := jdk_38_method_25_code, exceptionTable := #[], attributes := #[] }
def k12m3 : Method := { name := "add", desc := "(Ljava/lang/Object;)Z", sig := { parameters := [(.object "java/lang/Object")], returnType := some .boolean }, accessFlags := 1, code := some k12c3 }
def k12c4 : Code := { maxStack := 3, maxLocals := 1, code := jdk_38_method_55_code, exceptionTable := #[], attributes := #[] }
def k12m4 : Method := { name := "iterator", desc := "()Ljava/util/Iterator;", sig := { parameters := [], returnType := some (.object "java/util/Iterator") }, accessFlags := 1, code := some k12c4 }
/-- java/util/ArrayList -/
def k12 : Class := { plain "java/util/ArrayList" (some 8) with
  accessFlags := 33
  interfaces := #[7, 9, 10, 11]
  cf := some (fileOf pool12 10 #[.nestMembers #[290, 276, 500, 502, 262, 267]] #[{ accessFlags := 1, nameIndex := 5, descriptorIndex := 138, attributes := #[] }, { accessFlags := 1, nameIndex := 5, descriptorIndex := 6, attributes := #[] }, { accessFlags := 2, nameIndex := 133, descriptorIndex := 134, attributes := #[] }, { accessFlags := 1, nameIndex := 133, descriptorIndex := 96, attributes := #[] }, { accessFlags := 1, nameIndex := 166, descriptorIndex := 167, attributes := #[] }] 33 2 #[148, 329, 331, 333] #[{ accessFlags := 26, nameIndex := 335, descriptorIndex := 336, attributes := #[] }, { accessFlags := 26, nameIndex := 340, descriptorIndex := 51, attributes := #[] }, { accessFlags := 26, nameIndex := 17, descriptorIndex := 14, attributes := #[] }, { accessFlags := 26, nameIndex := 41, descriptorIndex := 14, attributes := #[] }, { accessFlags := 128, nameIndex := 13, descriptorIndex := 14, attributes := #[] }, { accessFlags := 2, nameIndex := 50, descriptorIndex := 51, attributes := #[] }])
  fields := #[{ name := "serialVersionUID", type := .long, accessFlags := 26, slot := 0, constantValue := 0 }, { name := "DEFAULT_CAPACITY", type := .int, accessFlags := 26, slot := 1, constantValue := 0 }, { name := "EMPTY_ELEMENTDATA", type := (.array (.object "java/lang/Object")), accessFlags := 26, slot := 2, constantValue := 0 }, { name := "DEFAULTCAPACITY_EMPTY_ELEMENTDATA", type := (.array (.object "java/lang/Object")), accessFlags := 26, slot := 3, constantValue := 0 }, { name := "elementData", type := (.array (.object "java/lang/Object")), accessFlags := 128, slot := 1, constantValue := 0 }, { name := "size", type := .int, accessFlags := 2, slot := 2, constantValue := 0 }]
  methods := #[k12m0, k12m1, k12m2, k12m3, k12m4]
  instanceTypes := #[.int, (.array (.object "java/lang/Object")), .int]
  staticTypes := #[.long, .int, (.array (.object "java/lang/Object")), (.array (.object "java/lang/Object"))]
  resolved := Array.replicate 509 none
  statics := none }

def pool13 : Array CpInfo := pool [(1, .class_ 2), (0, u "java/lang/Math"), (1, .class_ 6), (1, u "java/lang/Object"), (0, u "<init>"), (0, u "()V"), (89, .class_ 100), (1, u "java/lang/Math$RandomNumberGeneratorHolder"), (71, u "negativeZeroFloatBits"), (0, u "J"), (2, u "negativeZeroDoubleBits"), (21, u "max"), (46, u "$assertionsDisabled"), (0, u "Z"), (88, u "(II)I"), (2, u "twoToTheDoubleScaleDown"), (0, u "D"), (4, u "twoToTheDoubleScaleUp"), (9, u "E"), (3, u "PI"), (2, u "TAU"), (2, u "DEGREES_TO_RADIANS"), (0, u "RADIANS_TO_DEGREES")] 94

def k13m0 : Method := { name := "<init>", desc := "()V", sig := { parameters := [], returnType := none }, accessFlags := 2, code := none }
def k13c1 : Code := { maxStack := 2, maxLocals := 2, code := jdk_29_method_65_code, exceptionTable := #[], attributes := #[] }
def k13m1 : Method := { name := "max", desc := "(II)I", sig := { parameters := [.int, .int], returnType := some .int }, accessFlags := 9, code := some k13c1 }
/-- java/lang/Math -/
def k13 : Class := { plain "java/lang/Math" (some 0) with
  accessFlags := 49
  interfaces := #[]
  cf := some (fileOf pool13 1 #[.nestMembers #[98]] #[{ accessFlags := 2, nameIndex := 7, descriptorIndex := 8, attributes := #[] }, { accessFlags := 9, nameIndex := 198, descriptorIndex := 335, attributes := #[] }] 49 4 #[] #[{ accessFlags := 25, nameIndex := 354, descriptorIndex := 339, attributes := #[] }, { accessFlags := 25, nameIndex := 358, descriptorIndex := 339, attributes := #[] }, { accessFlags := 25, nameIndex := 361, descriptorIndex := 339, attributes := #[] }, { accessFlags := 26, nameIndex := 364, descriptorIndex := 339, attributes := #[] }, { accessFlags := 26, nameIndex := 365, descriptorIndex := 339, attributes := #[] }, { accessFlags := 26, nameIndex := 172, descriptorIndex := 173, attributes := #[] }, { accessFlags := 26, nameIndex := 176, descriptorIndex := 173, attributes := #[] }, { accessFlags := 8, nameIndex := 344, descriptorIndex := 339, attributes := #[] }, { accessFlags := 8, nameIndex := 338, descriptorIndex := 339, attributes := #[] }, { accessFlags := 4120, nameIndex := 245, descriptorIndex := 246, attributes := #[] }])
  fields := #[{ name := "E", type := .double, accessFlags := 25, slot := 0, constantValue := 0 }, { name := "PI", type := .double, accessFlags := 25, slot := 1, constantValue := 0 }, { name := "TAU", type := .double, accessFlags := 25, slot := 2, constantValue := 0 }, { name := "DEGREES_TO_RADIANS", type := .double, accessFlags := 26, slot := 3, constantValue := 0 }, { name := "RADIANS_TO_DEGREES", type := .double, accessFlags := 26, slot := 4, constantValue := 0 }, { name := "negativeZeroFloatBits", type := .long, accessFlags := 26, slot := 5, constantValue := 0 }, { name := "negativeZeroDoubleBits", type := .long, accessFlags := 26, slot := 6, constantValue := 0 }, { name := "twoToTheDoubleScaleUp", type := .double, accessFlags := 8, slot := 7, constantValue := 0 }, { name := "twoToTheDoubleScaleDown", type := .double, accessFlags := 8, slot := 8, constantValue := 0 }, { name := "$assertionsDisabled", type := .boolean, accessFlags := 4120, slot := 9, constantValue := 0 }]
  methods := #[k13m0, k13m1]
  instanceTypes := #[]
  staticTypes := #[.double, .double, .double, .double, .double, .long, .long, .double, .double, .boolean]
  resolved := Array.replicate 460 none
  statics := none }

def pool14 : Array CpInfo := pool [(1, .class_ 2), (0, u "com/example/mild_horn/mildhorn/datalog/Relation"), (0, .fieldref 4 5), (0, .class_ 6), (0, .nameAndType 7 8), (0, u "com/example/mild_horn/mildhorn/datalog/Relation$Index"), (0, u "this$0"), (0, u "Lcom/example/mild_horn/mildhorn/datalog/Relation;"), (0, .methodref 10 11), (0, .class_ 12), (0, .nameAndType 13 14), (0, u "java/lang/Object"), (0, u "<init>"), (0, u "()V"), (0, .fieldref 4 16), (0, .nameAndType 17 18), (0, u "buckets"), (0, u "[I"), (0, .fieldref 4 20), (0, .nameAndType 21 18), (0, u "next"), (0, .methodref 23 24), (0, .class_ 18), (0, .nameAndType 25 26), (0, u "clone"), (0, u "()Ljava/lang/Object;"), (0, .fieldref 4 28), (0, .nameAndType 29 18), (0, u "positions"), (0, .methodref 31 32), (0, .class_ 33), (0, .nameAndType 34 35), (0, u "java/util/Arrays"), (0, u "fill"), (0, u "([II)V"), (0, .methodref 37 38), (0, .class_ 39), (0, .nameAndType 40 41), (0, u "java/lang/Math"), (0, u "max"), (0, u "(II)I"), (4, .fieldref 4 47), (0, .nameAndType 48 49), (0, u "linked"), (0, u "I"), (3, u "(I)V"), (0, .methodref 4 55), (0, .nameAndType 56 57), (0, u "hashTuple"), (0, u "(I)I"), (0, .methodref 1 59), (0, .nameAndType 60 41), (0, u "bucket"), (9, .integer 2654435761), (0, .methodref 1 72), (0, .nameAndType 73 41), (0, u "value"), (0, u "(Lcom/example/mild_horn/mildhorn/datalog/Relation;[I)V"), (3, u "link"), (3, u "matches"), (0, u "(I[I)Z")] 19

def k14c0 : Code := { maxStack := 2, maxLocals := 3, code := prog_25_method_1_code, exceptionTable := #[], attributes := #[] }
def k14m0 : Method := { name := "<init>", desc := "(Lcom/example/mild_horn/mildhorn/datalog/Relation;[I)V", sig := { parameters := [(.object "com/example/mild_horn/mildhorn/datalog/Relation"), (.array .int)], returnType := none }, accessFlags := 2, code := some k14c0 }
def k14c1 : Code := { maxStack := 5, maxLocals := 3, code := prog_25_method_2_code, exceptionTable := #[], attributes := #[] }
def k14m1 : Method := { name := "link", desc := "(I)V", sig := { parameters := [.int], returnType := none }, accessFlags := 2, code := some k14c1 }
def k14c2 : Code := { maxStack := 4, maxLocals := 7, code := prog_25_method_6_code, exceptionTable := #[], attributes := #[] }
def k14m2 : Method := { name := "hashTuple", desc := "(I)I", sig := { parameters := [.int], returnType := some .int }, accessFlags := 2, code := some k14c2 }
def k14c3 : Code := { maxStack := 4, maxLocals := 4, code := prog_25_method_7_code, exceptionTable := #[], attributes := #[] }
def k14m3 : Method := { name := "matches", desc := "(I[I)Z", sig := { parameters := [.int, (.array .int)], returnType := some .boolean }, accessFlags := 2, code := some k14c3 }
/-- com/example/mild_horn/mildhorn/datalog/Relation$Index -/
def k14 : Class := { plain "com/example/mild_horn/mildhorn/datalog/Relation$Index" (some 0) with
  accessFlags := 48
  interfaces := #[]
  cf := some (fileOf pool14 4 #[.nestHost 1] #[{ accessFlags := 2, nameIndex := 13, descriptorIndex := 74, attributes := #[] }, { accessFlags := 2, nameIndex := 78, descriptorIndex := 53, attributes := #[] }, { accessFlags := 2, nameIndex := 56, descriptorIndex := 57, attributes := #[] }, { accessFlags := 2, nameIndex := 82, descriptorIndex := 83, attributes := #[] }] 48 10 #[] #[{ accessFlags := 18, nameIndex := 29, descriptorIndex := 18, attributes := #[] }, { accessFlags := 2, nameIndex := 17, descriptorIndex := 18, attributes := #[] }, { accessFlags := 2, nameIndex := 21, descriptorIndex := 18, attributes := #[] }, { accessFlags := 2, nameIndex := 48, descriptorIndex := 49, attributes := #[] }, { accessFlags := 4112, nameIndex := 7, descriptorIndex := 8, attributes := #[] }])
  fields := #[{ name := "positions", type := (.array .int), accessFlags := 18, slot := 0, constantValue := 0 }, { name := "buckets", type := (.array .int), accessFlags := 2, slot := 1, constantValue := 0 }, { name := "next", type := (.array .int), accessFlags := 2, slot := 2, constantValue := 0 }, { name := "linked", type := .int, accessFlags := 2, slot := 3, constantValue := 0 }, { name := "this$0", type := (.object "com/example/mild_horn/mildhorn/datalog/Relation"), accessFlags := 4112, slot := 4, constantValue := 0 }]
  methods := #[k14m0, k14m1, k14m2, k14m3]
  instanceTypes := #[(.array .int), (.array .int), (.array .int), .int, (.object "com/example/mild_horn/mildhorn/datalog/Relation")]
  staticTypes := #[]
  resolved := Array.replicate 103 none
  statics := none }

def pool15 : Array CpInfo := pool [(2, .class_ 4), (1, u "java/lang/Object"), (0, u "<init>"), (0, u "()V"), (7, .class_ 16), (1, u "java/util/Arrays"), (57, .class_ 76), (1, u "java/util/Arrays$NaturalOrder"), (36, .class_ 115), (1, u "java/util/Arrays$LegacyMergeSort"), (1, u "Z"), (257, .class_ 376), (0, u "java/util/Arrays$ArrayList"), (68, u "$assertionsDisabled"), (269, u "MIN_ARRAY_SORT_GRAN"), (0, u "I"), (2, u "INSERTIONSORT_THRESHOLD"), (120, u "fill"), (4, u "([II)V"), (129, .class_ 976), (0, u "java/util/Arrays$ArrayItr")] 52

def k15m0 : Method := { name := "<init>", desc := "()V", sig := { parameters := [], returnType := none }, accessFlags := 2, code := none }
def k15c1 : Code := { maxStack := 3, maxLocals := 4, code := jdk_65_method_103_code, exceptionTable := #[], attributes := #[] }
def k15m1 : Method := { name := "fill", desc := "([II)V", sig := { parameters := [(.array .int), .int], returnType := none }, accessFlags := 9, code := some k15c1 }
/-- java/util/Arrays -/
def k15 : Class := { plain "java/util/Arrays" (some 0) with
  accessFlags := 49
  interfaces := #[]
  cf := some (fileOf pool15 14 #[.nestMembers #[975, 375, 113, 74]] #[{ accessFlags := 2, nameIndex := 5, descriptorIndex := 6, attributes := #[] }, { accessFlags := 9, nameIndex := 840, descriptorIndex := 845, attributes := #[] }] 49 2 #[] #[{ accessFlags := 26, nameIndex := 715, descriptorIndex := 716, attributes := #[] }, { accessFlags := 26, nameIndex := 719, descriptorIndex := 716, attributes := #[] }, { accessFlags := 4120, nameIndex := 445, descriptorIndex := 117, attributes := #[] }])
  fields := #[{ name := "MIN_ARRAY_SORT_GRAN", type := .int, accessFlags := 26, slot := 0, constantValue := 0 }, { name := "INSERTIONSORT_THRESHOLD", type := .int, accessFlags := 26, slot := 1, constantValue := 0 }, { name := "$assertionsDisabled", type := .boolean, accessFlags := 4120, slot := 2, constantValue := 0 }]
  methods := #[k15m0, k15m1]
  instanceTypes := #[]
  staticTypes := #[.int, .int, .boolean]
  resolved := Array.replicate 1029 none
  statics := none }

def pool16 : Array CpInfo := pool [(2, .class_ 4), (1, u "java/lang/Object"), (0, u "<init>"), (0, u "()V"), (1, .class_ 10), (1, u "java/lang/System"), (0, u "allowSecurityManager"), (0, u "I"), (16, u "cons"), (0, u "Ljava/io/Console;"), (77, .class_ 110), (1, u "java/lang/System$CallersHolder"), (43, u "initialErrStream"), (0, u "Ljava/io/PrintStream;"), (19, u "security"), (0, u "Ljava/lang/SecurityManager;"), (31, .class_ 209), (0, u "java/lang/System$1"), (7, u "props"), (0, u "Ljava/util/Properties;"), (2, u "lineSeparator"), (0, u "Ljava/lang/String;"), (96, .class_ 321), (1, u "java/lang/System$LoggerFinder"), (5, .class_ 328), (0, u "java/lang/System$Logger"), (67, u "err"), (2, u "out"), (91, u "notSupportedJnuEncoding"), (15, u "in"), (17, u "initialIn"), (0, u "Ljava/io/InputStream;"), (35, u "bootLayer"), (0, u "Ljava/lang/ModuleLayer;"), (99, .class_ 664), (0, u "java/lang/System$2"), (9, u "NEVER"), (2, u "MAYBE"), (49, u "arraycopy"), (0, u "(Ljava/lang/Object;ILjava/lang/Object;II)V"), (72, .class_ 802), (0, u "java/lang/System$Logger$Level")] 31

def k16m0 : Method := { name := "<init>", desc := "()V", sig := { parameters := [], returnType := none }, accessFlags := 2, code := none }
def k16m1 : Method := { name := "arraycopy", desc := "(Ljava/lang/Object;ILjava/lang/Object;II)V", sig := { parameters := [(.object "java/lang/Object"), .int, (.object "java/lang/Object"), .int, .int], returnType := none }, accessFlags := 265, code := none }
/-- java/lang/System -/
def k16 : Class := { plain "java/lang/System" (some 0) with
  accessFlags := 49
  interfaces := #[]
  cf := some (fileOf pool16 8 #[.nestMembers #[319, 327, 801, 108, 663, 208]] #[{ accessFlags := 2, nameIndex := 5, descriptorIndex := 6, attributes := #[] }, { accessFlags := 265, nameIndex := 727, descriptorIndex := 728, attributes := #[] }] 49 2 #[] #[{ accessFlags := 25, nameIndex := 507, descriptorIndex := 526, attributes := #[] }, { accessFlags := 25, nameIndex := 399, descriptorIndex := 155, attributes := #[] }, { accessFlags := 25, nameIndex := 396, descriptorIndex := 155, attributes := #[] }, { accessFlags := 10, nameIndex := 525, descriptorIndex := 526, attributes := #[] }, { accessFlags := 26, nameIndex := 674, descriptorIndex := 12, attributes := #[] }, { accessFlags := 26, nameIndex := 677, descriptorIndex := 12, attributes := #[] }, { accessFlags := 10, nameIndex := 11, descriptorIndex := 12, attributes := #[] }, { accessFlags := 74, nameIndex := 175, descriptorIndex := 176, attributes := #[] }, { accessFlags := 10, nameIndex := 491, descriptorIndex := 222, attributes := #[] }, { accessFlags := 74, nameIndex := 29, descriptorIndex := 30, attributes := #[] }, { accessFlags := 74, nameIndex := 154, descriptorIndex := 155, attributes := #[] }, { accessFlags := 10, nameIndex := 217, descriptorIndex := 218, attributes := #[] }, { accessFlags := 10, nameIndex := 221, descriptorIndex := 222, attributes := #[] }, { accessFlags := 8, nameIndex := 562, descriptorIndex := 563, attributes := #[] }])
  fields := #[{ name := "in", type := (.object "java/io/InputStream"), accessFlags := 25, slot := 0, constantValue := 0 }, { name := "out", type := (.object "java/io/PrintStream"), accessFlags := 25, slot := 1, constantValue := 0 }, { name := "err", type := (.object "java/io/PrintStream"), accessFlags := 25, slot := 2, constantValue := 0 }, { name := "initialIn", type := (.object "java/io/InputStream"), accessFlags := 10, slot := 3, constantValue := 0 }, { name := "NEVER", type := .int, accessFlags := 26, slot := 4, constantValue := 0 }, { name := "MAYBE", type := .int, accessFlags := 26, slot := 5, constantValue := 0 }, { name := "allowSecurityManager", type := .int, accessFlags := 10, slot := 6, constantValue := 0 }, { name := "security", type := (.object "java/lang/SecurityManager"), accessFlags := 74, slot := 7, constantValue := 0 }, { name := "notSupportedJnuEncoding", type := (.object "java/lang/String"), accessFlags := 10, slot := 8, constantValue := 0 }, { name := "cons", type := (.object "java/io/Console"), accessFlags := 74, slot := 9, constantValue := 0 }, { name := "initialErrStream", type := (.object "java/io/PrintStream"), accessFlags := 74, slot := 10, constantValue := 0 }, { name := "props", type := (.object "java/util/Properties"), accessFlags := 10, slot := 11, constantValue := 0 }, { name := "lineSeparator", type := (.object "java/lang/String"), accessFlags := 10, slot := 12, constantValue := 0 }, { name := "bootLayer", type := (.object "java/lang/ModuleLayer"), accessFlags := 8, slot := 13, constantValue := 0 }]
  methods := #[k16m0, k16m1]
  instanceTypes := #[]
  staticTypes := #[(.object "java/io/InputStream"), (.object "java/io/PrintStream"), (.object "java/io/PrintStream"), (.object "java/io/InputStream"), .int, .int, .int, (.object "java/lang/SecurityManager"), (.object "java/lang/String"), (.object "java/io/Console"), (.object "java/io/PrintStream"), (.object "java/util/Properties"), (.object "java/lang/String"), (.object "java/lang/ModuleLayer")]
  resolved := Array.replicate 834 none
  statics := none }

def pool17 : Array CpInfo := pool [(16, .class_ 18), (1, u "java/util/Iterator"), (0, u "hasNext"), (0, u "()Z"), (2, u "next"), (0, u "()Ljava/lang/Object;"), (6, .class_ 32), (0, u "java/lang/Object")] 20

def k17m0 : Method := { name := "hasNext", desc := "()Z", sig := { parameters := [], returnType := some .boolean }, accessFlags := 1025, code := none }
def k17m1 : Method := { name := "next", desc := "()Ljava/lang/Object;", sig := { parameters := [], returnType := some (.object "java/lang/Object") }, accessFlags := 1025, code := none }
/-- java/util/Iterator -/
def k17 : Class := { plain "java/util/Iterator" (some 0) with
  accessFlags := 1537
  interfaces := #[]
  cf := some (fileOf pool17 16 #[] #[{ accessFlags := 1025, nameIndex := 19, descriptorIndex := 20, attributes := #[] }, { accessFlags := 1025, nameIndex := 23, descriptorIndex := 24, attributes := #[] }] 1537 31 #[] #[])
  fields := #[]
  methods := #[k17m0, k17m1]
  instanceTypes := #[]
  staticTypes := #[]
  resolved := Array.replicate 53 none
  statics := none }

def pool18 : Array CpInfo := pool [(1, .fieldref 2 3), (0, .class_ 4), (0, .nameAndType 5 6), (0, u "java/util/ArrayList$Itr"), (0, u "this$0"), (0, u "Ljava/util/ArrayList;"), (0, .methodref 8 9), (0, .class_ 10), (0, .nameAndType 11 12), (0, u "java/lang/Object"), (0, u "<init>"), (0, u "()V"), (0, .fieldref 2 14), (0, .nameAndType 15 16), (0, u "lastRet"), (0, u "I"), (0, .fieldref 18 19), (0, .class_ 20), (0, .nameAndType 21 16), (0, u "java/util/ArrayList"), (0, u "modCount"), (0, .fieldref 2 23), (0, .nameAndType 24 16), (0, u "expectedModCount"), (0, .fieldref 2 26), (0, .nameAndType 27 16), (0, u "cursor"), (0, .fieldref 18 29), (0, .nameAndType 30 16), (0, u "size"), (0, .methodref 2 32), (0, .nameAndType 33 12), (0, u "checkForComodification"), (3, .fieldref 18 38), (0, .nameAndType 39 40), (0, u "elementData"), (0, u "[Ljava/lang/Object;"), (28, .class_ 70), (0, u "java/util/Iterator"), (0, u "(Ljava/util/ArrayList;)V"), (8, u "hasNext"), (0, u "()Z"), (1, u "next"), (0, u "()Ljava/lang/Object;")] 19

def k18c0 : Code := { maxStack := 2, maxLocals := 2, code := jdk_49_method_1_code, exceptionTable := #[], attributes := #[] }
def k18m0 : Method := { name := "<init>", desc := "(Ljava/util/ArrayList;)V", sig := { parameters := [(.object "java/util/ArrayList")], returnType := none }, accessFlags := 0, code := some k18c0 }
def k18c1 : Code := { maxStack := 2, maxLocals := 1, code := jdk_49_method_2_code, exceptionTable := #[], attributes := #[] }
def k18m1 : Method := { name := "hasNext", desc := "()Z", sig := { parameters := [], returnType := some .boolean }, accessFlags := 1, code := some k18c1 }
def k18c2 : Code := { maxStack := 4, maxLocals := 3, code := jdk_49_method_3_code, exceptionTable := #[], attributes := #[] }
def k18m2 : Method := { name := "next", desc := "()Ljava/lang/Object;", sig := { parameters := [], returnType := some (.object "java/lang/Object") }, accessFlags := 1, code := some k18c2 }
def k18c3 : Code := { maxStack := 2, maxLocals := 1, code := jdk_49_method_6_code, exceptionTable := #[], attributes := #[] }
def k18m3 : Method := { name := "checkForComodification", desc := "()V", sig := { parameters := [], returnType := none }, accessFlags := 16, code := some k18c3 }
/-- java/util/ArrayList$Itr -/
def k18 : Class := { plain "java/util/ArrayList$Itr" (some 0) with
  accessFlags := 32
  interfaces := #[17]
  cf := some (fileOf pool18 2 #[.nestHost 18] #[{ accessFlags := 0, nameIndex := 11, descriptorIndex := 71, attributes := #[] }, { accessFlags := 1, nameIndex := 80, descriptorIndex := 81, attributes := #[] }, { accessFlags := 1, nameIndex := 83, descriptorIndex := 84, attributes := #[] }, { accessFlags := 16, nameIndex := 33, descriptorIndex := 12, attributes := #[] }] 32 8 #[69] #[{ accessFlags := 0, nameIndex := 27, descriptorIndex := 16, attributes := #[] }, { accessFlags := 0, nameIndex := 15, descriptorIndex := 16, attributes := #[] }, { accessFlags := 0, nameIndex := 24, descriptorIndex := 16, attributes := #[] }, { accessFlags := 4112, nameIndex := 5, descriptorIndex := 6, attributes := #[] }])
  fields := #[{ name := "cursor", type := .int, accessFlags := 0, slot := 0, constantValue := 0 }, { name := "lastRet", type := .int, accessFlags := 0, slot := 1, constantValue := 0 }, { name := "expectedModCount", type := .int, accessFlags := 0, slot := 2, constantValue := 0 }, { name := "this$0", type := (.object "java/util/ArrayList"), accessFlags := 4112, slot := 3, constantValue := 0 }]
  methods := #[k18m0, k18m1, k18m2, k18m3]
  instanceTypes := #[.int, .int, .int, (.object "java/util/ArrayList")]
  staticTypes := #[]
  resolved := Array.replicate 104 none
  statics := none }

/-- the primitive byte -/
def k19 : Class := { plain "byte" none with kind := .primitive 'B', accessFlags := 0x411 }
/-- [B -/
def k20 : Class := { plain "[B" (some 0) with kind := .array 19 .byte, interfaces := #[10, 11], accessFlags := 1041 }

/-- the primitive int -/
def k21 : Class := { plain "int" none with kind := .primitive 'I', accessFlags := 0x411 }
/-- [I -/
def k22 : Class := { plain "[I" (some 0) with kind := .array 21 .int, interfaces := #[10, 11], accessFlags := 1041 }

/-- [Ljava/lang/Object; -/
def k23 : Class := { plain "[Ljava/lang/Object;" (some 0) with kind := .array 0 (.object "java/lang/Object"), interfaces := #[10, 11], accessFlags := 1041 }

def heap : Heap := #[]
def classes : Array Class := #[k0, k1, k2, k3, k4, k5, k6, k7, k8, k9, k10, k11, k12, k13, k14, k15, k16, k17, k18, k19, k20, k21, k22, k23]
def interned : List (Array UInt16 × Addr) := []
def slotsUsed : Nat := 0
def theMethod : MethodId := ⟨1, 2⟩
def args0 : Array Value := #[.int 5, .int 1, .int 7, .int 3, .int 15]
def aboutOver (below : List Frame) : State where
  vm := { classes := classes, interned := interned.toArray }
  heap := heap
  slotsUsed := slotsUsed
  threads := #[{ frames := .invoking theMethod args0 :: below }]
def below0 : List Frame := [.native { method := ⟨0, 0⟩, args := #[] }]
def about1 : State := aboutOver below0
def p0 : Program := .bare "" "" ""
def e0 : Env := launch0.env 0 0 0
theorem w_frames : about1.frames = Frame.invoking theMethod args0 :: below0 := rfl
set_option maxRecDepth 65536 in
theorem w_args : argsFit about1.vm theMethod args0 = true := by decide +kernel
set_option maxRecDepth 65536 in
theorem w_heap : heapFits about1 = true := by decide +kernel
set_option maxRecDepth 65536 in
theorem w_runnable : about1.curStatus? = some .runnable := by decide +kernel
set_option maxRecDepth 65536 in
theorem w_alone : about1.alone = true := by decide +kernel
set_option maxRecDepth 65536 in
theorem w_named : about1.methodNamed? x = some theMethod := by decide +kernel
set_option maxRecDepth 65536 in
theorem w_hears : about1.hears theMethod below0 = true := by decide +kernel
set_option maxRecDepth 65536 in
theorem w_ripe : about1.ripe theMethod args0 below0 = true := by decide +kernel
theorem w_running : about1.status = .running := rfl
set_option maxRecDepth 65536 in
theorem w_room : about1.hasRoom e0.platform room_1 = true :=
  launch0.hasRoom_least _ room_1 (by decide +kernel) (by decide +kernel) (by decide +kernel) (by decide +kernel) (by decide +kernel) (by decide +kernel)
theorem allAtoms_all (ts : List Jvm.Cond) (a : Array Jvm.Value) (st : Jvm.State) : (allAtoms ts).before a st = ts.all (fun c => c.before a st) := by
  induction ts with
  | nil => rfl
  | cons c t ih =>
    show (Jvm.Cond.and c (allAtoms t)).before a st = _
    rw [Jvm.Cond.before_and, ih, List.all_cons]
def words1 : List Jvm.Cond := Jvm.Cond.code x code maxLocals ret :: tables_1
/-- a 'code' word, met by the world's own term for the bytes: nothing is compared byte by byte -/
theorem code_word {y : MethodName} {bytes : ByteArray} {mx : Nat} {rt : Option FieldType} {a : Array Value} {s : State} {m : MethodId} {meth : Method} {c : Code} (h1 : s.methodNamed? y = some m) (h2 : s.vm.method? m = some meth) (h3 : meth.code = some c) (h4 : c.code = bytes)
    (h5 : (c.maxLocals == mx && c.exceptionTable.isEmpty && decide (c.maxStack ≤ mostOperands) && decide (meth.sig.returnType = rt) && !meth.locks && decide (parseMethodDescriptor y.desc = some meth.sig)) = true) : (Jvm.Cond.code y bytes mx rt).before a s = true := by
  simp only [Bool.and_eq_true, beq_iff_eq, Bool.not_eq_true', decide_eq_true_eq] at h5
  obtain ⟨⟨⟨⟨⟨g1, g2⟩, g3⟩, g4⟩, g5⟩, g6⟩ := h5
  simp [Cond.before, Cond.holds, Cond.value, h1, h2, h3, h4, g1, g2, g3, g4, g5, g6]
def isCode : Jvm.Cond → Bool
  | .code _ _ _ _ => true
  | _ => false
theorem all_split {L : List Jvm.Cond} {P : Jvm.Cond → Bool} (h1 : L.all (fun c => isCode c || P c) = true) (h2 : ∀ c ∈ L.filter isCode, P c = true) : L.all P = true := by
  refine List.all_eq_true.mpr fun c hc => ?_
  have h := List.all_eq_true.mp h1 c hc
  rcases Bool.eq_false_or_eq_true (isCode c) with hi | hi
  · exact h2 c (List.mem_filter.mpr ⟨hc, hi⟩)
  · simpa [hi] using h
set_option maxRecDepth 65536 in
theorem w_c0 : (Jvm.Cond.code x code maxLocals ret).before args0 about1 = true := code_word (m := ⟨1, 2⟩) (meth := k1m2) (c := k1c2) (by decide +kernel) rfl rfl rfl (by decide +kernel)
set_option maxRecDepth 65536 in
theorem w_c1 : (Jvm.Cond.code ({ cls := "com/example/mild_horn/mildhorn/datalog/Relation", name := "<init>", desc := "(I)V" } : Jvm.MethodName) prog_24_method_1_code (4 : Nat) (Option.none : Option Jvm.ClassFile.FieldType)).before args0 about1 = true := code_word (m := ⟨2, 0⟩) (meth := k2m0) (c := k2c0) (by decide +kernel) rfl rfl rfl (by decide +kernel)
set_option maxRecDepth 65536 in
theorem w_c2 : (Jvm.Cond.code ({ cls := "java/lang/Object", name := "<init>", desc := "()V" } : Jvm.MethodName) object_method_1_code (1 : Nat) (Option.none : Option Jvm.ClassFile.FieldType)).before args0 about1 = true := code_word (m := ⟨0, 0⟩) (meth := k0m0) (c := k0c0) (by decide +kernel) rfl rfl rfl (by decide +kernel)
set_option maxRecDepth 65536 in
theorem w_c3 : (Jvm.Cond.code ({ cls := "java/util/ArrayList", name := "<init>", desc := "(I)V" } : Jvm.MethodName) jdk_38_method_1_code (2 : Nat) (Option.none : Option Jvm.ClassFile.FieldType)).before args0 about1 = true := code_word (m := ⟨12, 0⟩) (meth := k12m0) (c := k12c0) (by decide +kernel) rfl rfl rfl (by decide +kernel)
set_option maxRecDepth 65536 in
theorem w_c4 : (Jvm.Cond.code ({ cls := "java/util/AbstractList", name := "<init>", desc := "()V" } : Jvm.MethodName) jdk_39_method_1_code (1 : Nat) (Option.none : Option Jvm.ClassFile.FieldType)).before args0 about1 = true := code_word (m := ⟨8, 0⟩) (meth := k8m0) (c := k8c0) (by decide +kernel) rfl rfl rfl (by decide +kernel)
set_option maxRecDepth 65536 in
theorem w_c5 : (Jvm.Cond.code ({ cls := "java/util/AbstractCollection", name := "<init>", desc := "()V" } : Jvm.MethodName) jdk_22_method_1_code (1 : Nat) (Option.none : Option Jvm.ClassFile.FieldType)).before args0 about1 = true := code_word (m := ⟨5, 0⟩) (meth := k5m0) (c := k5c0) (by decide +kernel) rfl rfl rfl (by decide +kernel)
set_option maxRecDepth 65536 in
theorem w_c6 : (Jvm.Cond.code ({ cls := "java/lang/Math", name := "max", desc := "(II)I" } : Jvm.MethodName) jdk_29_method_65_code (2 : Nat) (Option.some Jvm.ClassFile.FieldType.int)).before args0 about1 = true := code_word (m := ⟨13, 1⟩) (meth := k13m1) (c := k13c1) (by decide +kernel) rfl rfl rfl (by decide +kernel)
set_option maxRecDepth 65536 in
theorem w_c7 : (Jvm.Cond.code ({ cls := "com/example/mild_horn/mildhorn/datalog/Relation$Index", name := "<init>", desc := "(Lcom/example/mild_horn/mildhorn/datalog/Relation;[I)V" } : Jvm.MethodName) prog_25_method_1_code (3 : Nat) (Option.none : Option Jvm.ClassFile.FieldType)).before args0 about1 = true := code_word (m := ⟨14, 0⟩) (meth := k14m0) (c := k14c0) (by decide +kernel) rfl rfl rfl (by decide +kernel)
set_option maxRecDepth 65536 in
theorem w_c8 : (Jvm.Cond.code ({ cls := "java/util/Arrays", name := "fill", desc := "([II)V" } : Jvm.MethodName) jdk_65_method_103_code (4 : Nat) (Option.none : Option Jvm.ClassFile.FieldType)).before args0 about1 = true := code_word (m := ⟨15, 1⟩) (meth := k15m1) (c := k15c1) (by decide +kernel) rfl rfl rfl (by decide +kernel)
set_option maxRecDepth 65536 in
theorem w_c9 : (Jvm.Cond.code ({ cls := "java/util/ArrayList", name := "add", desc := "(Ljava/lang/Object;)Z" } : Jvm.MethodName) jdk_38_method_25_code (2 : Nat) (Option.some Jvm.ClassFile.FieldType.boolean)).before args0 about1 = true := code_word (m := ⟨12, 3⟩) (meth := k12m3) (c := k12c3) (by decide +kernel) rfl rfl rfl (by decide +kernel)
set_option maxRecDepth 65536 in
theorem w_c10 : (Jvm.Cond.code ({ cls := "java/util/ArrayList", name := "add", desc := "(Ljava/lang/Object;[Ljava/lang/Object;I)V" } : Jvm.MethodName) jdk_38_method_24_code (4 : Nat) (Option.none : Option Jvm.ClassFile.FieldType)).before args0 about1 = true := code_word (m := ⟨12, 2⟩) (meth := k12m2) (c := k12c2) (by decide +kernel) rfl rfl rfl (by decide +kernel)
set_option maxRecDepth 65536 in
theorem w_c11 : (Jvm.Cond.code ({ cls := "com/example/mild_horn/mildhorn/datalog/RelationStartRoundPinLaw", name := "put", desc := "(Lcom/example/mild_horn/mildhorn/datalog/Relation;Z[I)I" } : Jvm.MethodName) method_2_code (3 : Nat) (Option.some Jvm.ClassFile.FieldType.int)).before args0 about1 = true := code_word (m := ⟨1, 1⟩) (meth := k1m1) (c := k1c1) (by decide +kernel) rfl rfl rfl (by decide +kernel)
set_option maxRecDepth 65536 in
theorem w_c12 : (Jvm.Cond.code ({ cls := "com/example/mild_horn/mildhorn/datalog/Relation", name := "startRound", desc := "()V" } : Jvm.MethodName) prog_24_method_6_code (1 : Nat) (Option.none : Option Jvm.ClassFile.FieldType)).before args0 about1 = true := code_word (m := ⟨2, 4⟩) (meth := k2m4) (c := k2c4) (by decide +kernel) rfl rfl rfl (by decide +kernel)
set_option maxRecDepth 65536 in
theorem w_c13 : (Jvm.Cond.code ({ cls := "com/example/mild_horn/mildhorn/datalog/Relation", name := "stable", desc := "()I" } : Jvm.MethodName) prog_24_method_4_code (1 : Nat) (Option.some Jvm.ClassFile.FieldType.int)).before args0 about1 = true := code_word (m := ⟨2, 2⟩) (meth := k2m2) (c := k2c2) (by decide +kernel) rfl rfl rfl (by decide +kernel)
set_option maxRecDepth 65536 in
theorem w_c14 : (Jvm.Cond.code ({ cls := "com/example/mild_horn/mildhorn/datalog/Relation", name := "known", desc := "()I" } : Jvm.MethodName) prog_24_method_5_code (1 : Nat) (Option.some Jvm.ClassFile.FieldType.int)).before args0 about1 = true := code_word (m := ⟨2, 3⟩) (meth := k2m3) (c := k2c3) (by decide +kernel) rfl rfl rfl (by decide +kernel)
set_option maxRecDepth 65536 in
theorem w_c15 : (Jvm.Cond.code ({ cls := "com/example/mild_horn/mildhorn/datalog/Relation", name := "size", desc := "()I" } : Jvm.MethodName) prog_24_method_3_code (1 : Nat) (Option.some Jvm.ClassFile.FieldType.int)).before args0 about1 = true := code_word (m := ⟨2, 1⟩) (meth := k2m1) (c := k2c1) (by decide +kernel) rfl rfl rfl (by decide +kernel)
set_option maxRecDepth 65536 in
theorem w_c16 : (Jvm.Cond.code ({ cls := "com/example/mild_horn/mildhorn/datalog/Relation", name := "add", desc := "([I)Z" } : Jvm.MethodName) prog_24_method_8_code (5 : Nat) (Option.some Jvm.ClassFile.FieldType.boolean)).before args0 about1 = true := code_word (m := ⟨2, 6⟩) (meth := k2m6) (c := k2c6) (by decide +kernel) rfl rfl rfl (by decide +kernel)
set_option maxRecDepth 65536 in
theorem w_c17 : (Jvm.Cond.code ({ cls := "com/example/mild_horn/mildhorn/datalog/Relation", name := "find", desc := "(Lcom/example/mild_horn/mildhorn/datalog/Relation$Index;[II)I" } : Jvm.MethodName) prog_24_method_11_code (5 : Nat) (Option.some Jvm.ClassFile.FieldType.int)).before args0 about1 = true := code_word (m := ⟨2, 7⟩) (meth := k2m7) (c := k2c7) (by decide +kernel) rfl rfl rfl (by decide +kernel)
set_option maxRecDepth 65536 in
theorem w_c18 : (Jvm.Cond.code ({ cls := "com/example/mild_horn/mildhorn/datalog/Relation", name := "hashKey", desc := "([I)I" } : Jvm.MethodName) prog_24_method_13_code (6 : Nat) (Option.some Jvm.ClassFile.FieldType.int)).before args0 about1 = true := code_word (m := ⟨2, 8⟩) (meth := k2m8) (c := k2c8) (by decide +kernel) rfl rfl rfl (by decide +kernel)
set_option maxRecDepth 65536 in
theorem w_c19 : (Jvm.Cond.code ({ cls := "com/example/mild_horn/mildhorn/datalog/Relation", name := "bucket", desc := "(II)I" } : Jvm.MethodName) prog_24_method_14_code (2 : Nat) (Option.some Jvm.ClassFile.FieldType.int)).before args0 about1 = true := code_word (m := ⟨2, 9⟩) (meth := k2m9) (c := k2c9) (by decide +kernel) rfl rfl rfl (by decide +kernel)
set_option maxRecDepth 65536 in
theorem w_c20 : (Jvm.Cond.code ({ cls := "java/util/ArrayList", name := "iterator", desc := "()Ljava/util/Iterator;" } : Jvm.MethodName) jdk_38_method_55_code (1 : Nat) (Option.some (Jvm.ClassFile.FieldType.object "java/util/Iterator"))).before args0 about1 = true := code_word (m := ⟨12, 4⟩) (meth := k12m4) (c := k12c4) (by decide +kernel) rfl rfl rfl (by decide +kernel)
set_option maxRecDepth 65536 in
theorem w_c21 : (Jvm.Cond.code ({ cls := "java/util/ArrayList$Itr", name := "<init>", desc := "(Ljava/util/ArrayList;)V" } : Jvm.MethodName) jdk_49_method_1_code (2 : Nat) (Option.none : Option Jvm.ClassFile.FieldType)).before args0 about1 = true := code_word (m := ⟨18, 0⟩) (meth := k18m0) (c := k18c0) (by decide +kernel) rfl rfl rfl (by decide +kernel)
set_option maxRecDepth 65536 in
theorem w_c22 : (Jvm.Cond.code ({ cls := "java/util/ArrayList$Itr", name := "hasNext", desc := "()Z" } : Jvm.MethodName) jdk_49_method_2_code (1 : Nat) (Option.some Jvm.ClassFile.FieldType.boolean)).before args0 about1 = true := code_word (m := ⟨18, 1⟩) (meth := k18m1) (c := k18c1) (by decide +kernel) rfl rfl rfl (by decide +kernel)
set_option maxRecDepth 65536 in
theorem w_c23 : (Jvm.Cond.code ({ cls := "java/util/ArrayList$Itr", name := "next", desc := "()Ljava/lang/Object;" } : Jvm.MethodName) jdk_49_method_3_code (3 : Nat) (Option.some (Jvm.ClassFile.FieldType.object "java/lang/Object"))).before args0 about1 = true := code_word (m := ⟨18, 2⟩) (meth := k18m2) (c := k18c2) (by decide +kernel) rfl rfl rfl (by decide +kernel)
set_option maxRecDepth 65536 in
theorem w_c24 : (Jvm.Cond.code ({ cls := "java/util/ArrayList$Itr", name := "checkForComodification", desc := "()V" } : Jvm.MethodName) jdk_49_method_6_code (1 : Nat) (Option.none : Option Jvm.ClassFile.FieldType)).before args0 about1 = true := code_word (m := ⟨18, 3⟩) (meth := k18m3) (c := k18c3) (by decide +kernel) rfl rfl rfl (by decide +kernel)
set_option maxRecDepth 65536 in
theorem w_c25 : (Jvm.Cond.code ({ cls := "com/example/mild_horn/mildhorn/datalog/Relation$Index", name := "link", desc := "(I)V" } : Jvm.MethodName) prog_25_method_2_code (3 : Nat) (Option.none : Option Jvm.ClassFile.FieldType)).before args0 about1 = true := code_word (m := ⟨14, 1⟩) (meth := k14m1) (c := k14c1) (by decide +kernel) rfl rfl rfl (by decide +kernel)
set_option maxRecDepth 65536 in
theorem w_c26 : (Jvm.Cond.code ({ cls := "com/example/mild_horn/mildhorn/datalog/Relation$Index", name := "hashTuple", desc := "(I)I" } : Jvm.MethodName) prog_25_method_6_code (7 : Nat) (Option.some Jvm.ClassFile.FieldType.int)).before args0 about1 = true := code_word (m := ⟨14, 2⟩) (meth := k14m2) (c := k14c2) (by decide +kernel) rfl rfl rfl (by decide +kernel)
set_option maxRecDepth 65536 in
theorem w_c27 : (Jvm.Cond.code ({ cls := "com/example/mild_horn/mildhorn/datalog/Relation", name := "value", desc := "(II)I" } : Jvm.MethodName) prog_24_method_7_code (3 : Nat) (Option.some Jvm.ClassFile.FieldType.int)).before args0 about1 = true := code_word (m := ⟨2, 5⟩) (meth := k2m5) (c := k2c5) (by decide +kernel) rfl rfl rfl (by decide +kernel)
set_option maxRecDepth 65536 in
theorem w_c28 : (Jvm.Cond.code ({ cls := "com/example/mild_horn/mildhorn/datalog/Relation$Index", name := "matches", desc := "(I[I)Z" } : Jvm.MethodName) prog_25_method_7_code (4 : Nat) (Option.some Jvm.ClassFile.FieldType.boolean)).before args0 about1 = true := code_word (m := ⟨14, 3⟩) (meth := k14m3) (c := k14c3) (by decide +kernel) rfl rfl rfl (by decide +kernel)
def codes1 : List Jvm.Cond := [Jvm.Cond.code x code maxLocals ret, Jvm.Cond.code ({ cls := "com/example/mild_horn/mildhorn/datalog/Relation", name := "<init>", desc := "(I)V" } : Jvm.MethodName) prog_24_method_1_code (4 : Nat) (Option.none : Option Jvm.ClassFile.FieldType), Jvm.Cond.code ({ cls := "java/lang/Object", name := "<init>", desc := "()V" } : Jvm.MethodName) object_method_1_code (1 : Nat) (Option.none : Option Jvm.ClassFile.FieldType), Jvm.Cond.code ({ cls := "java/util/ArrayList", name := "<init>", desc := "(I)V" } : Jvm.MethodName) jdk_38_method_1_code (2 : Nat) (Option.none : Option Jvm.ClassFile.FieldType), Jvm.Cond.code ({ cls := "java/util/AbstractList", name := "<init>", desc := "()V" } : Jvm.MethodName) jdk_39_method_1_code (1 : Nat) (Option.none : Option Jvm.ClassFile.FieldType), Jvm.Cond.code ({ cls := "java/util/AbstractCollection", name := "<init>", desc := "()V" } : Jvm.MethodName) jdk_22_method_1_code (1 : Nat) (Option.none : Option Jvm.ClassFile.FieldType), Jvm.Cond.code ({ cls := "java/lang/Math", name := "max", desc := "(II)I" } : Jvm.MethodName) jdk_29_method_65_code (2 : Nat) (Option.some Jvm.ClassFile.FieldType.int), Jvm.Cond.code ({ cls := "com/example/mild_horn/mildhorn/datalog/Relation$Index", name := "<init>", desc := "(Lcom/example/mild_horn/mildhorn/datalog/Relation;[I)V" } : Jvm.MethodName) prog_25_method_1_code (3 : Nat) (Option.none : Option Jvm.ClassFile.FieldType), Jvm.Cond.code ({ cls := "java/util/Arrays", name := "fill", desc := "([II)V" } : Jvm.MethodName) jdk_65_method_103_code (4 : Nat) (Option.none : Option Jvm.ClassFile.FieldType), Jvm.Cond.code ({ cls := "java/util/ArrayList", name := "add", desc := "(Ljava/lang/Object;)Z" } : Jvm.MethodName) jdk_38_method_25_code (2 : Nat) (Option.some Jvm.ClassFile.FieldType.boolean), Jvm.Cond.code ({ cls := "java/util/ArrayList", name := "add", desc := "(Ljava/lang/Object;[Ljava/lang/Object;I)V" } : Jvm.MethodName) jdk_38_method_24_code (4 : Nat) (Option.none : Option Jvm.ClassFile.FieldType), Jvm.Cond.code ({ cls := "com/example/mild_horn/mildhorn/datalog/RelationStartRoundPinLaw", name := "put", desc := "(Lcom/example/mild_horn/mildhorn/datalog/Relation;Z[I)I" } : Jvm.MethodName) method_2_code (3 : Nat) (Option.some Jvm.ClassFile.FieldType.int), Jvm.Cond.code ({ cls := "com/example/mild_horn/mildhorn/datalog/Relation", name := "startRound", desc := "()V" } : Jvm.MethodName) prog_24_method_6_code (1 : Nat) (Option.none : Option Jvm.ClassFile.FieldType), Jvm.Cond.code ({ cls := "com/example/mild_horn/mildhorn/datalog/Relation", name := "stable", desc := "()I" } : Jvm.MethodName) prog_24_method_4_code (1 : Nat) (Option.some Jvm.ClassFile.FieldType.int), Jvm.Cond.code ({ cls := "com/example/mild_horn/mildhorn/datalog/Relation", name := "known", desc := "()I" } : Jvm.MethodName) prog_24_method_5_code (1 : Nat) (Option.some Jvm.ClassFile.FieldType.int), Jvm.Cond.code ({ cls := "com/example/mild_horn/mildhorn/datalog/Relation", name := "size", desc := "()I" } : Jvm.MethodName) prog_24_method_3_code (1 : Nat) (Option.some Jvm.ClassFile.FieldType.int), Jvm.Cond.code ({ cls := "com/example/mild_horn/mildhorn/datalog/Relation", name := "add", desc := "([I)Z" } : Jvm.MethodName) prog_24_method_8_code (5 : Nat) (Option.some Jvm.ClassFile.FieldType.boolean), Jvm.Cond.code ({ cls := "com/example/mild_horn/mildhorn/datalog/Relation", name := "find", desc := "(Lcom/example/mild_horn/mildhorn/datalog/Relation$Index;[II)I" } : Jvm.MethodName) prog_24_method_11_code (5 : Nat) (Option.some Jvm.ClassFile.FieldType.int), Jvm.Cond.code ({ cls := "com/example/mild_horn/mildhorn/datalog/Relation", name := "hashKey", desc := "([I)I" } : Jvm.MethodName) prog_24_method_13_code (6 : Nat) (Option.some Jvm.ClassFile.FieldType.int), Jvm.Cond.code ({ cls := "com/example/mild_horn/mildhorn/datalog/Relation", name := "bucket", desc := "(II)I" } : Jvm.MethodName) prog_24_method_14_code (2 : Nat) (Option.some Jvm.ClassFile.FieldType.int), Jvm.Cond.code ({ cls := "java/util/ArrayList", name := "iterator", desc := "()Ljava/util/Iterator;" } : Jvm.MethodName) jdk_38_method_55_code (1 : Nat) (Option.some (Jvm.ClassFile.FieldType.object "java/util/Iterator")), Jvm.Cond.code ({ cls := "java/util/ArrayList$Itr", name := "<init>", desc := "(Ljava/util/ArrayList;)V" } : Jvm.MethodName) jdk_49_method_1_code (2 : Nat) (Option.none : Option Jvm.ClassFile.FieldType), Jvm.Cond.code ({ cls := "java/util/ArrayList$Itr", name := "hasNext", desc := "()Z" } : Jvm.MethodName) jdk_49_method_2_code (1 : Nat) (Option.some Jvm.ClassFile.FieldType.boolean), Jvm.Cond.code ({ cls := "java/util/ArrayList$Itr", name := "next", desc := "()Ljava/lang/Object;" } : Jvm.MethodName) jdk_49_method_3_code (3 : Nat) (Option.some (Jvm.ClassFile.FieldType.object "java/lang/Object")), Jvm.Cond.code ({ cls := "java/util/ArrayList$Itr", name := "checkForComodification", desc := "()V" } : Jvm.MethodName) jdk_49_method_6_code (1 : Nat) (Option.none : Option Jvm.ClassFile.FieldType), Jvm.Cond.code ({ cls := "com/example/mild_horn/mildhorn/datalog/Relation$Index", name := "link", desc := "(I)V" } : Jvm.MethodName) prog_25_method_2_code (3 : Nat) (Option.none : Option Jvm.ClassFile.FieldType), Jvm.Cond.code ({ cls := "com/example/mild_horn/mildhorn/datalog/Relation$Index", name := "hashTuple", desc := "(I)I" } : Jvm.MethodName) prog_25_method_6_code (7 : Nat) (Option.some Jvm.ClassFile.FieldType.int), Jvm.Cond.code ({ cls := "com/example/mild_horn/mildhorn/datalog/Relation", name := "value", desc := "(II)I" } : Jvm.MethodName) prog_24_method_7_code (3 : Nat) (Option.some Jvm.ClassFile.FieldType.int), Jvm.Cond.code ({ cls := "com/example/mild_horn/mildhorn/datalog/Relation$Index", name := "matches", desc := "(I[I)Z" } : Jvm.MethodName) prog_25_method_7_code (4 : Nat) (Option.some Jvm.ClassFile.FieldType.boolean)]
set_option maxRecDepth 65536 in
theorem codes_eq : words1.filter isCode = codes1 := rfl
theorem w_codes : ∀ c ∈ words1.filter isCode, c.before args0 about1 = true := by
  rw [codes_eq]
  intro c hc
  simp only [codes1, List.mem_cons, List.not_mem_nil, or_false] at hc
  rcases hc with rfl | rfl | rfl | rfl | rfl | rfl | rfl | rfl | rfl | rfl | rfl | rfl | rfl | rfl | rfl | rfl | rfl | rfl | rfl | rfl | rfl | rfl | rfl | rfl | rfl | rfl | rfl | rfl | rfl
  · exact w_c0
  · exact w_c1
  · exact w_c2
  · exact w_c3
  · exact w_c4
  · exact w_c5
  · exact w_c6
  · exact w_c7
  · exact w_c8
  · exact w_c9
  · exact w_c10
  · exact w_c11
  · exact w_c12
  · exact w_c13
  · exact w_c14
  · exact w_c15
  · exact w_c16
  · exact w_c17
  · exact w_c18
  · exact w_c19
  · exact w_c20
  · exact w_c21
  · exact w_c22
  · exact w_c23
  · exact w_c24
  · exact w_c25
  · exact w_c26
  · exact w_c27
  · exact w_c28
set_option maxRecDepth 65536 in
theorem w_t1 : (words1.take 24).all (fun c => isCode c || c.before args0 about1) = true := by decide +kernel
set_option maxRecDepth 65536 in
theorem w_t2 : ((words1.drop 24).take 24).all (fun c => isCode c || c.before args0 about1) = true := by decide +kernel
set_option maxRecDepth 65536 in
theorem w_t3 : (((words1.drop 24).drop 24).take 24).all (fun c => isCode c || c.before args0 about1) = true := by decide +kernel
set_option maxRecDepth 65536 in
theorem w_t4 : ((((words1.drop 24).drop 24).drop 24).take 24).all (fun c => isCode c || c.before args0 about1) = true := by decide +kernel
set_option maxRecDepth 65536 in
theorem w_t5 : (((((words1.drop 24).drop 24).drop 24).drop 24).take 24).all (fun c => isCode c || c.before args0 about1) = true := by decide +kernel
set_option maxRecDepth 65536 in
theorem w_t6 : ((((((words1.drop 24).drop 24).drop 24).drop 24).drop 24).take 24).all (fun c => isCode c || c.before args0 about1) = true := by decide +kernel
set_option maxRecDepth 65536 in
theorem w_t7 : (((((((words1.drop 24).drop 24).drop 24).drop 24).drop 24).drop 24).take 24).all (fun c => isCode c || c.before args0 about1) = true := by decide +kernel
set_option maxRecDepth 65536 in
theorem w_t8 : ((((((((words1.drop 24).drop 24).drop 24).drop 24).drop 24).drop 24).drop 24).take 24).all (fun c => isCode c || c.before args0 about1) = true := by decide +kernel
set_option maxRecDepth 65536 in
theorem w_t9 : (((((((((words1.drop 24).drop 24).drop 24).drop 24).drop 24).drop 24).drop 24).drop 24).take 24).all (fun c => isCode c || c.before args0 about1) = true := by decide +kernel
set_option maxRecDepth 65536 in
theorem w_t10 : (((((((((words1.drop 24).drop 24).drop 24).drop 24).drop 24).drop 24).drop 24).drop 24).drop 24).all (fun c => isCode c || c.before args0 about1) = true := by decide +kernel
theorem w_tables : (allAtoms (Jvm.Cond.code x code maxLocals ret :: tables_1)).before args0 about1 = true := by
  rw [allAtoms_all]
  show words1.all (fun c => c.before args0 about1) = true
  refine all_split ?_ w_codes
  rw [← List.take_append_drop 24 words1, List.all_append, w_t1, ← List.take_append_drop 24 (words1.drop 24), List.all_append, w_t2, ← List.take_append_drop 24 ((words1.drop 24).drop 24), List.all_append, w_t3, ← List.take_append_drop 24 (((words1.drop 24).drop 24).drop 24), List.all_append, w_t4, ← List.take_append_drop 24 ((((words1.drop 24).drop 24).drop 24).drop 24), List.all_append, w_t5, ← List.take_append_drop 24 (((((words1.drop 24).drop 24).drop 24).drop 24).drop 24), List.all_append, w_t6, ← List.take_append_drop 24 ((((((words1.drop 24).drop 24).drop 24).drop 24).drop 24).drop 24), List.all_append, w_t7, ← List.take_append_drop 24 (((((((words1.drop 24).drop 24).drop 24).drop 24).drop 24).drop 24).drop 24), List.all_append, w_t8, ← List.take_append_drop 24 ((((((((words1.drop 24).drop 24).drop 24).drop 24).drop 24).drop 24).drop 24).drop 24), List.all_append, w_t9, w_t10]
  rfl
set_option maxRecDepth 65536 in
theorem w_case : (Jvm.Cond.and given_1 narrow_1).before args0 about1 = true := by decide +kernel
theorem w_applies : (headSpec (Jvm.Cond.code x code maxLocals ret :: tables_1) room_1).applies x e0.platform about1 = true :=
  (Spec.applies_iff w_frames).mpr ⟨w_running, w_runnable, w_alone, w_named, w_hears, w_ripe, w_room, w_tables⟩
theorem atStart : AtStart classFile x code maxLocals ret World_1 tables_1 room_1 Calls_1 rest_1 Pre_1 launch0 p0 e0 about1 theMethod args0 below0 :=
  ⟨lists_1, trivial, launch0.admits_env _ _ _, launch0.least_env, fairChoices_fair.cas, fairChoices_fair.clock, w_frames, w_args, w_heap, w_applies, trivial, trivial, w_case⟩
end start1
theorem witness_1 : WitnessClaimed_1 := ⟨start1.p0, start1.e0, start1.about1, start1.theMethod, start1.args0, start1.below0, start1.atStart⟩
end Jvm.Pilot.@@N@@
