import PyProof.Rows.All
import Wide.All
import OpenK.AllK
import Wide.FinOn
import PySem.Challenge.RW_vn0015_01
open PySem PySem.W PyProof.Rows
set_option maxRecDepth 100000
set_option Elab.async false
set_option linter.unusedVariables false
section
example : True := by
  w_top off
  trivial
open PySem PySem.W PyProof.Rows
namespace Mine
/-! The head, run at once: the opening and the text's statements upon the heap as a tree. -/
noncomputable def toTL : List Obj → BT → Nat → Bool → BT × Nat × Bool
  | [], t, n, b => (t, n, b)
  | o :: l, t, n, b => toTL l (t.ins n o) (n + 1) (b && ((t.ins n o).get n).isSome)
theorem toTL_spec {life : Life} : ∀ (l : List Obj) (t : BT) (n : Nat) (b : Bool) (os : Array Obj), absHeap t n life = ⟨os, life⟩ → (toTL l t n b).2.2 = true →
    b = true ∧ absHeap (toTL l t n b).1 (toTL l t n b).2.1 life = ⟨os ++ l.toArray, life⟩
  | [], t, n, b, os, h, e => ⟨e, by simpa [toTL] using h⟩
  | o :: l, t, n, b, os, h, e => by
    by_cases hg : ((t.ins n o).get n).isSome = true
    · have h1 : absHeap (t.ins n o) (n + 1) life = ⟨os.push o, life⟩ := by
        rw [absHeap_ins hg, h]; rfl
      obtain ⟨h2, h3⟩ := toTL_spec l (t.ins n o) (n + 1) _ (os.push o) h1 e
      refine ⟨(Bool.and_eq_true_iff.mp h2).1, h3.trans ?_⟩
      simp
    · have : ∀ (l : List Obj) (t : BT) (n : Nat), (toTL l t n false).2.2 = false := by
        intro l
        induction l with
        | nil => intro t n; rfl
        | cons a l ih => intro t n; exact ih _ _
      have hf : ((t.ins n o).get n).isSome = false := by simpa using hg
      simp only [toTL, hf, Bool.and_false] at e
      rw [this] at e; cases e
noncomputable def startT (s : Shared) : SharedT := match toTL s.heap.objs.toList .nil 0 true with | (t, n, _) => ⟨t, n, s.heap.life, s.gens, s.drawn, s.toks, s.os⟩
noncomputable def startOk (s : Shared) : Bool := (toTL s.heap.objs.toList .nil 0 true).2.2
theorem startT_abs {s : Shared} (h : startOk s = true) : (startT s).abs = s := by
  obtain ⟨⟨os, life⟩, gens, drawn, toks, o⟩ := s
  have := (toTL_spec (life := life) os.toList .nil 0 true #[] rfl h).2
  show (⟨absHeap (toTL os.toList .nil 0 true).1 (toTL os.toList .nil 0 true).2.1 life, gens, drawn, toks, o⟩ : Shared) = _
  rw [this]; simp
noncomputable def openedG (p : Program) (n1 : Nat) (w : World) : Option Shared := match impGoT treeTable (opening p) w n1 (startT (start (opening p)).1) (start (opening p)).2 with
  | some (s, t) => (importEnds treeTable (opening p) w 1 s.abs t).bind (fenceModules? p)
  | none => none
section
variable {p : Program} {n1 m0 k0 R N : Nat} {ann : Option Value} {b : List Stmt} {env : Env} {q : Pos}
theorem open_of {w : World} {s : Shared} (hk : startOk (start (opening p)).1 = true) (hN : n1 + 1 ≤ N) (h : openedG p n1 w = some s) : fencedOpening treeTable p w N = some s := by
  unfold openedG at h
  split at h
  · rename_i s1 t1 e1
    obtain ⟨r, hr, hf⟩ := Option.bind_eq_some_iff.mp h
    have g := impGo_of e1
    rw [startT_abs hk] at g
    have m := importEnds_mono (N - (n1 + 1)) _ _ _ _ (imp_go g hr)
    unfold fencedOpening
    rw [show n1 + 1 + (N - (n1 + 1)) = N by omega] at m
    rw [m]; exact hf
  · cases h
theorem left_gen {q' : Program} {loose : List PySem.Str} {Xt : Shared → Bool} {α : Type} {Yf : Shared → α} {Ya : World → α} {g0 : Bool} {z a v : World → Shared}
    (hk : startOk (start (opening p)).1 = true) (hN : n1 + 1 ≤ N) (hM : k0 + (1 + R) ≤ N)
    (hO : ∀ w, openedG p n1 w = some (z w))
    (hT : ∀ w, topGo treeTable p w m0 ann k0 (z w) (topStub p) = some (a w, ⟨denote treeTable (.body b env), .body b env, q, [topFrame q]⟩))
    (hz : ∀ w, ((z w).heap.isNs mainGlobals && (z w).gens.size == 0, (z w).heap.objs.size, (z w).heap.nsMap mainGlobals "__annotations__") = (true, m0, ann))
    (hB : ∀ s w, segRun treeTable p w m0 ann 1 1 s (blockOf b env (.body b env) q [topFrame q]) = some (.next, s, .body b env, q))
    (hR : ∀ w, topRun treeTable p w m0 ann R (a w) (restOf b env (.body b env) q [topFrame q]) = some (v w))
    (h5 : ∀ w, (staticsOk (importedModules p.main.body) (z w).heap (v w).heap && namesBound p (v w).heap && gensDone (v w) && laidKept (z w).heap (v w).heap) = true)
    (h6 : ∀ w, openSeen q' loose (importedModules p.main.body) Xt g0 (v w) = openGood q' loose)
    (h7 : ∀ w, Yf (v w) = Ya w) : LeftO p q' loose Xt Yf Ya N g0 := fun w => by
  have eO := open_of hk hN (hO w)
  have e := hz w
  simp only [Prod.mk.injEq] at e
  obtain ⟨t2, t3, t4⟩ := e
  have r0 := piece_block (hB (a w) w) (hR w)
  have r4 := topRun_mono (N - (k0 + (1 + R))) _ _ _ _ (go_top (hT w) r0)
  rw [show k0 + (1 + R) + (N - (k0 + (1 + R))) = N by omega] at r4
  unfold openEnds
  rw [eO]
  show (topFrom treeTable p w N _).map _ = _
  have t : topFrom treeTable p w N (z w) = some (v w) := by
    unfold topFrom
    rw [t2, t3, t4]
    dsimp only
    rw [r4]
    show (match staticsOk (importedModules p.main.body) (z w).heap (v w).heap && namesBound p (v w).heap && gensDone (v w) && laidKept (z w).heap (v w).heap with | true => _ | false => _) = _
    rw [h5 w]
  rw [t]
  exact congrArg some (Prod.ext (h6 w) (h7 w))
end
/-! This text's head. -/
abbrev pw : Program := PySem.Challenge.pw_vn0015_01
def bdy : List Stmt := behindTheImports pw
def envT : Env := { scope := pw.main.scope, locals := mainNs, globals := mainNs, cells := [], code := .ref 41, frame := some 42 }
def pos0 : Pos := ⟨0, 0, 0, 0⟩
def annT : Option Value := some (.ref 6)
end Mine
namespace Mine
/-! The head's states as text: the objects (their defs' own text by projection out of the program). -/
noncomputable def stAt : List Stmt → List Nat → Option Stmt
  | _, [] => none
  | l, i :: r => match l[i]?, r with
    | some st, [] => some st
    | some (.ClassDef _ _ _ b _ _ _ _ _ _ _), r => stAt b r
    | _, _ => none
noncomputable def fdOf (path : List Nat) (k : Arguments → FuncBody → Scope → FuncData) : Data := match stAt bdy path with
  | some (.FunctionDef _ a b _ _ _ sc _ _ _) => .func (k a (.stmts b) sc)
  | _ => .plain
noncomputable def f0 (P : Params) : Obj := PySem.W.boot_o_0 P
noncomputable def f1 (P : Params) : Obj := Obj.mk (Value.type "dict") none (Data.dict #[DictEntry.mk (PyData.keyHash P (Str.ofString "builtins")) (Value.str (Str.ofString "builtins") 162) (Value.ref 4), DictEntry.mk (PyData.keyHash P (Str.ofString "__main__")) (Value.str (Str.ofString "__main__") 163) (Value.ref 5), DictEntry.mk (PyData.keyHash P (Str.ofString "_struct")) (Value.str (Str.ofString "_struct") 284) (Value.ref 13)] 3) #[]
noncomputable def f2 (P : Params) : Obj := Obj.mk Value.none none (Data.dict #[DictEntry.mk (PyData.keyHash P (Str.mk #[105, 109, 112, 111, 114, 116, 46, 108, 111, 97, 100, 101, 100, 46, 95, 115, 116, 114, 117, 99, 116])) (Value.str (Str.mk #[105, 109, 112, 111, 114, 116, 46, 108, 111, 97, 100, 101, 100, 46, 95, 115, 116, 114, 117, 99, 116]) 185) (Value.bool true), DictEntry.mk (PyData.keyHash P (Str.ofString "class._frozen_importlib_external._LoaderBasics")) (Value.str (Str.ofString "class._frozen_importlib_external._LoaderBasics") 190) (Value.ref 16), DictEntry.mk (PyData.keyHash P (Str.mk #[119, 97, 116, 99, 104, 101, 100, 46, 105, 109, 112, 111, 114, 116])) (Value.str (Str.mk #[119, 97, 116, 99, 104, 101, 100, 46, 105, 109, 112, 111, 114, 116]) 206) (Value.ref 20), DictEntry.mk (PyData.keyHash P (Str.ofString "class._frozen_importlib_external.FileLoader")) (Value.str (Str.ofString "class._frozen_importlib_external.FileLoader") 207) (Value.ref 22), DictEntry.mk (PyData.keyHash P (Str.ofString "class._frozen_importlib_external.ExtensionFileLoader")) (Value.str (Str.ofString "class._frozen_importlib_external.ExtensionFileLoader") 228) (Value.ref 27), DictEntry.mk (PyData.keyHash P (Str.ofString "class._frozen_importlib.ModuleSpec")) (Value.str (Str.ofString "class._frozen_importlib.ModuleSpec") 256) (Value.ref 33), DictEntry.mk (PyData.keyHash P (Str.ofString "sys.modules.booked-epoch")) (Value.str (Str.ofString "sys.modules.booked-epoch") 285) (Value.int 3 0), DictEntry.mk (PyData.keyHash P (Str.ofString "class.struct.error")) (Value.str (Str.ofString "class.struct.error") 302) (Value.type "struct.error"), DictEntry.mk (PyData.keyHash P (Str.mk #[105, 109, 112, 111, 114, 116, 46, 108, 97, 116, 101, 114, 45, 108, 97, 105, 100, 46, 95, 115, 116, 114, 117, 99, 116])) (Value.str (Str.mk #[105, 109, 112, 111, 114, 116, 46, 108, 97, 116, 101, 114, 45, 108, 97, 105, 100, 46, 95, 115, 116, 114, 117, 99, 116]) 304) (Value.bool true), DictEntry.mk (PyData.keyHash P (Str.ofString "watched.library")) (Value.str (Str.ofString "watched.library") 306) (Value.ref 38), DictEntry.mk (PyData.keyHash P (Str.ofString "watched.library-objects")) (Value.str (Str.ofString "watched.library-objects") 0) (Value.str (Str.ofString "\x0d") 0), DictEntry.mk (PyData.keyHash P (Str.ofString "type.__subclasses__.Exception.0")) (Value.str (Str.ofString "type.__subclasses__.Exception.0") 413) (Value.int 89 0), DictEntry.mk (PyData.keyHash P (Str.ofString "type.__subclasses__.Exception.n")) (Value.str (Str.ofString "type.__subclasses__.Exception.n") 414) (Value.int 1 0)] 13) #[]
noncomputable def f3 (P : Params) : Obj := Obj.mk (Value.type "dict") none (Data.dict #[DictEntry.mk (PyData.keyHash P (Str.ofString "__name__")) (Value.str (Str.ofString "__name__") 165) (Value.str (Str.ofString "law_vn0015_01") 2058), DictEntry.mk (PyData.keyHash P (Str.ofString "__doc__")) (Value.str (Str.ofString "__doc__") 166) Value.none, DictEntry.mk (PyData.keyHash P (Str.ofString "__package__")) (Value.str (Str.ofString "__package__") 167) Value.none, DictEntry.mk (PyData.keyHash P (Str.ofString "__loader__")) (Value.str (Str.ofString "__loader__") 168) (Value.builtin "__main__.__loader__#opaque"), DictEntry.mk (PyData.keyHash P (Str.ofString "__spec__")) (Value.str (Str.ofString "__spec__") 169) Value.none, DictEntry.mk (PyData.keyHash P (Str.ofString "__annotations__")) (Value.str (Str.ofString "__annotations__") 170) (Value.ref 6), DictEntry.mk (PyData.keyHash P (Str.ofString "__builtins__")) (Value.str (Str.ofString "__builtins__") 171) (Value.ref 4), DictEntry.mk (PyData.keyHash P (Str.ofString "__file__")) (Value.str (Str.ofString "__file__") 173) (Value.str (Str.ofString "/claim/cut.py") 172), DictEntry.mk (PyData.keyHash P (Str.ofString "__cached__")) (Value.str (Str.ofString "__cached__") 174) Value.none, DictEntry.mk (PyData.keyHash P (Str.ofString "pack")) (Value.str (Str.ofString "pack") 312) (Value.builtin "_struct.pack"), DictEntry.mk (PyData.keyHash P (Str.ofString "_wall")) (Value.str (Str.ofString "_wall") 325) (Value.ref 49), DictEntry.mk (PyData.keyHash P (Str.ofString "B58_DIGITS")) (Value.str (Str.ofString "B58_DIGITS") 329) (Value.str (Str.ofString "123456789ABCDEFGHJKLMNPQRSTUVWXYZabcdefghijkmnopqrstuvwxyz") 328), DictEntry.mk (PyData.keyHash P (Str.ofString "encode")) (Value.str (Str.ofString "encode") 342) (Value.ref 466), DictEntry.mk (PyData.keyHash P (Str.ofString "encode_base58")) (Value.str (Str.ofString "encode_base58") 343) (Value.ref 56), DictEntry.mk (PyData.keyHash P (Str.ofString "decode")) (Value.str (Str.ofString "decode") 355) (Value.ref 502), DictEntry.mk (PyData.keyHash P (Str.ofString "decode_base58")) (Value.str (Str.ofString "decode_base58") 356) (Value.ref 63), DictEntry.mk (PyData.keyHash P (Str.ofString "convertbits")) (Value.str (Str.ofString "convertbits") 374) (Value.ref 79), DictEntry.mk (PyData.keyHash P (Str.ofString "convertbits_bech32")) (Value.str (Str.ofString "convertbits_bech32") 375) (Value.ref 71), DictEntry.mk (PyData.keyHash P (Str.ofString "convertbits_bech322")) (Value.str (Str.ofString "convertbits_bech322") 394) (Value.ref 79), DictEntry.mk (PyData.keyHash P (Str.ofString "RLPException")) (Value.str (Str.ofString "RLPException") 416) (Value.ref 89), DictEntry.mk (PyData.keyHash P (Str.ofString "EncodingError")) (Value.str (Str.ofString "EncodingError") 444) (Value.ref 111), DictEntry.mk (PyData.keyHash P (Str.ofString "DecodingError")) (Value.str (Str.ofString "DecodingError") 472) (Value.ref 132), DictEntry.mk (PyData.keyHash P (Str.ofString "SerializationError")) (Value.str (Str.ofString "SerializationError") 500) (Value.ref 153), DictEntry.mk (PyData.keyHash P (Str.ofString "ListSerializationError")) (Value.str (Str.ofString "ListSerializationError") 531) (Value.ref 175), DictEntry.mk (PyData.keyHash P (Str.ofString "DeserializationError")) (Value.str (Str.ofString "DeserializationError") 559) (Value.ref 196), DictEntry.mk (PyData.keyHash P (Str.ofString "ListDeserializationError")) (Value.str (Str.ofString "ListDeserializationError") 590) (Value.ref 218), DictEntry.mk (PyData.keyHash P (Str.ofString "ALL_BYTES")) (Value.str (Str.ofString "ALL_BYTES") 1628) (Value.ref 233), DictEntry.mk (PyData.keyHash P (Str.ofString "Atomic")) (Value.str (Str.ofString "Atomic") 1629) (Value.ref 234), DictEntry.mk (PyData.keyHash P (Str.ofString "Sequence")) (Value.str (Str.ofString "Sequence") 1630) (Value.ref 235), DictEntry.mk (PyData.keyHash P (Str.ofString "is_bytes")) (Value.str (Str.ofString "is_bytes") 1637) (Value.ref 242), DictEntry.mk (PyData.keyHash P (Str.ofString "big_endian_to_int")) (Value.str (Str.ofString "big_endian_to_int") 1644) (Value.ref 249), DictEntry.mk (PyData.keyHash P (Str.ofString "int_to_big_endian")) (Value.str (Str.ofString "int_to_big_endian") 1651) (Value.ref 256), DictEntry.mk (PyData.keyHash P (Str.ofString "BigEndianInt")) (Value.str (Str.ofString "BigEndianInt") 1699) (Value.ref 288), DictEntry.mk (PyData.keyHash P (Str.ofString "big_endian_int")) (Value.str (Str.ofString "big_endian_int") 1704) (Value.ref 294), DictEntry.mk (PyData.keyHash P (Str.ofString "Binary")) (Value.str (Str.ofString "Binary") 1804) (Value.ref 355), DictEntry.mk (PyData.keyHash P (Str.ofString "binary")) (Value.str (Str.ofString "binary") 1818) (Value.ref 361), DictEntry.mk (PyData.keyHash P (Str.ofString "Boolean")) (Value.str (Str.ofString "Boolean") 1856) (Value.ref 386), DictEntry.mk (PyData.keyHash P (Str.ofString "boolean")) (Value.str (Str.ofString "boolean") 1857) (Value.ref 392), DictEntry.mk (PyData.keyHash P (Str.ofString "is_sedes")) (Value.str (Str.ofString "is_sedes") 1866) (Value.ref 399), DictEntry.mk (PyData.keyHash P (Str.ofString "is_sequence")) (Value.str (Str.ofString "is_sequence") 1873) (Value.ref 406), DictEntry.mk (PyData.keyHash P (Str.ofString "List")) (Value.str (Str.ofString "List") 1932) (Value.ref 440), DictEntry.mk (PyData.keyHash P (Str.ofString "encode_raw")) (Value.str (Str.ofString "encode_raw") 1945) (Value.ref 451), DictEntry.mk (PyData.keyHash P (Str.ofString "decode_raw")) (Value.str (Str.ofString "decode_raw") 1958) (Value.ref 458), DictEntry.mk (PyData.keyHash P (Str.ofString "encode_codec")) (Value.str (Str.ofString "encode_codec") 1971) (Value.ref 466), DictEntry.mk (PyData.keyHash P (Str.ofString "LONG_LENGTH")) (Value.str (Str.ofString "LONG_LENGTH") 1975) (Value.int 18446744073709551616 1974), DictEntry.mk (PyData.keyHash P (Str.ofString "length_prefix")) (Value.str (Str.ofString "length_prefix") 1984) (Value.ref 473), DictEntry.mk (PyData.keyHash P (Str.ofString "SHORT_STRING")) (Value.str (Str.ofString "SHORT_STRING") 1988) (Value.int 184 1987), DictEntry.mk (PyData.keyHash P (Str.ofString "consume_length_prefix")) (Value.str (Str.ofString "consume_length_prefix") 2000) (Value.ref 480), DictEntry.mk (PyData.keyHash P (Str.ofString "consume_payload")) (Value.str (Str.ofString "consume_payload") 2022) (Value.ref 487), DictEntry.mk (PyData.keyHash P (Str.ofString "consume_item")) (Value.str (Str.ofString "consume_item") 2034) (Value.ref 494), DictEntry.mk (PyData.keyHash P (Str.ofString "decode_codec")) (Value.str (Str.ofString "decode_codec") 2049) (Value.ref 502), DictEntry.mk (PyData.keyHash P (Str.ofString "infer_sedes")) (Value.str (Str.ofString "infer_sedes") 2057) (Value.ref 509), DictEntry.mk (PyData.keyHash P (Str.ofString "_law_numbers")) (Value.str (Str.ofString "_law_numbers") 2065) (Value.ref 514), DictEntry.mk (PyData.keyHash P (Str.ofString "_law_value")) (Value.str (Str.ofString "_law_value") 2075) (Value.ref 521), DictEntry.mk (PyData.keyHash P (Str.ofString "law")) (Value.str (Str.ofString "law") 2081) (Value.ref 526)] 55) #[]
noncomputable def f4 (P : Params) : Obj := Obj.mk (Value.type "module") (some 0) Data.plain #[]
noncomputable def f5 (P : Params) : Obj := Obj.mk (Value.type "module") (some 3) Data.plain #[]
noncomputable def f6 (P : Params) : Obj := Obj.mk (Value.type "dict") none (Data.dict #[]) #[]
noncomputable def f7 (P : Params) : Obj := Obj.mk (Value.type "tuple") none (Data.seq #[]) #[]
noncomputable def f8 (P : Params) : Obj := Obj.mk Value.none none (Data.fields #[]) #[]
noncomputable def f9 (P : Params) : Obj := Obj.mk (Value.type "code") none (Data.fields #[Value.str (Str.ofString "<module>") 176, Value.str (Str.ofString "<module>") 177, Value.str (Str.ofString "/claim/cut.py") 178, Value.int 1 0, Value.int 0 0, Value.int 0 0, Value.int 0 0, Value.int 0 0, Value.ref 7, Value.bool false, Value.int 175 0, Value.ref 8, Value.none, Value.none, Value.none, Value.none, Value.int 179 0, Value.int 1 0, Value.str (Str.ofString "/claim/cut.py") 180]) #[]
noncomputable def f10 (P : Params) : Obj := Obj.mk (Value.type "frame") none Data.plain #[some (Value.ref 9), some (Value.ref 3), some (Value.ref 3), none, some (Value.str (Str.ofString "__main__") 164), none, some (Value.ref 0)]
noncomputable def f11 (P : Params) : Obj := Obj.mk (Value.type "tuple") none (Data.seq #[Value.str (Str.ofString "pack") 182]) #[]
noncomputable def f12 (P : Params) : Obj := Obj.mk (Value.type "dict") none (Data.dict #[DictEntry.mk (PyData.keyHash P (Str.ofString "__name__")) (Value.str (Str.ofString "__name__") 287) (Value.str (Str.ofString "_struct") 286), DictEntry.mk (PyData.keyHash P (Str.ofString "__doc__")) (Value.str (Str.ofString "__doc__") 288) (Value.builtin "off-the-table:_struct.__doc__:shared#opaque"), DictEntry.mk (PyData.keyHash P (Str.ofString "__package__")) (Value.str (Str.ofString "__package__") 290) (Value.str (Str.ofString "") 289), DictEntry.mk (PyData.keyHash P (Str.ofString "__loader__")) (Value.str (Str.ofString "__loader__") 291) (Value.builtin "off-the-table:_struct.__loader__:shared#opaque"), DictEntry.mk (PyData.keyHash P (Str.ofString "__spec__")) (Value.str (Str.ofString "__spec__") 292) (Value.builtin "off-the-table:_struct.__spec__:shared#opaque"), DictEntry.mk (PyData.keyHash P (Str.ofString "_clearcache")) (Value.str (Str.ofString "_clearcache") 293) (Value.builtin "off-the-table:_struct._clearcache:shared#opaque"), DictEntry.mk (PyData.keyHash P (Str.ofString "calcsize")) (Value.str (Str.ofString "calcsize") 294) (Value.builtin "_struct.calcsize"), DictEntry.mk (PyData.keyHash P (Str.ofString "iter_unpack")) (Value.str (Str.ofString "iter_unpack") 295) (Value.builtin "_struct.iter_unpack"), DictEntry.mk (PyData.keyHash P (Str.ofString "pack")) (Value.str (Str.ofString "pack") 296) (Value.builtin "_struct.pack"), DictEntry.mk (PyData.keyHash P (Str.ofString "pack_into")) (Value.str (Str.ofString "pack_into") 297) (Value.builtin "_struct.pack_into"), DictEntry.mk (PyData.keyHash P (Str.ofString "unpack")) (Value.str (Str.ofString "unpack") 298) (Value.builtin "_struct.unpack"), DictEntry.mk (PyData.keyHash P (Str.ofString "unpack_from")) (Value.str (Str.ofString "unpack_from") 299) (Value.builtin "_struct.unpack_from"), DictEntry.mk (PyData.keyHash P (Str.ofString "__file__")) (Value.str (Str.ofString "__file__") 300) (Value.str (Str.ofString "/nix/store/wj1f56qky4pmjc7l0r6b6l7whnnw7hp6-python3-3.13.15/lib/python3.13/lib-dynload/_struct.cpython-313-x86_64-linux-gnu.so") 186), DictEntry.mk (PyData.keyHash P (Str.ofString "Struct")) (Value.str (Str.ofString "Struct") 301) (Value.type "_struct.Struct"), DictEntry.mk (PyData.keyHash P (Str.ofString "error")) (Value.str (Str.ofString "error") 303) (Value.type "struct.error")] 15) #[]
noncomputable def f13 (P : Params) : Obj := Obj.mk (Value.type "module") (some 12) Data.plain #[]
noncomputable def f14 (P : Params) : Obj := Obj.mk (Value.type "dict") none (Data.dict #[DictEntry.mk (PyData.keyHash P (Str.ofString "name")) (Value.str (Str.ofString "name") 188) (Value.str (Str.ofString "_struct") 187), DictEntry.mk (PyData.keyHash P (Str.ofString "path")) (Value.str (Str.ofString "path") 189) (Value.str (Str.ofString "/nix/store/wj1f56qky4pmjc7l0r6b6l7whnnw7hp6-python3-3.13.15/lib/python3.13/lib-dynload/_struct.cpython-313-x86_64-linux-gnu.so") 186)] 2) #[]
noncomputable def f15 (P : Params) : Obj := Obj.mk (Value.type "dict") none (Data.dict #[DictEntry.mk (PyData.keyHash P (Str.ofString "__module__")) (Value.str (Str.ofString "__module__") 193) (Value.str (Str.ofString "_frozen_importlib_external") 191), DictEntry.mk (PyData.keyHash P (Str.ofString "__firstlineno__")) (Value.str (Str.ofString "__firstlineno__") 194) (Value.int 1001 192), DictEntry.mk (PyData.keyHash P (Str.ofString "__doc__")) (Value.str (Str.ofString "__doc__") 195) (Value.builtin "_frozen_importlib_external._LoaderBasics.__doc__:str#opaque"), DictEntry.mk (PyData.keyHash P (Str.ofString "is_package")) (Value.str (Str.ofString "is_package") 196) (Value.builtin "_frozen_importlib_external._LoaderBasics.is_package#opaque"), DictEntry.mk (PyData.keyHash P (Str.ofString "create_module")) (Value.str (Str.ofString "create_module") 197) (Value.builtin "_frozen_importlib_external._LoaderBasics.create_module#opaque"), DictEntry.mk (PyData.keyHash P (Str.ofString "exec_module")) (Value.str (Str.ofString "exec_module") 198) (Value.builtin "_frozen_importlib_external._LoaderBasics.exec_module#opaque"), DictEntry.mk (PyData.keyHash P (Str.ofString "load_module")) (Value.str (Str.ofString "load_module") 199) (Value.builtin "_frozen_importlib_external._LoaderBasics.load_module#opaque"), DictEntry.mk (PyData.keyHash P (Str.ofString "__static_attributes__")) (Value.str (Str.ofString "__static_attributes__") 200) (Value.ref 17), DictEntry.mk (PyData.keyHash P (Str.ofString "__dict__")) (Value.str (Str.ofString "__dict__") 202) (Value.ref 18), DictEntry.mk (PyData.keyHash P (Str.ofString "__weakref__")) (Value.str (Str.ofString "__weakref__") 204) (Value.ref 19)] 10) #[]
noncomputable def f16 (P : Params) : Obj := Obj.mk (Value.type "type") none (Data.cls (ClassData.mk (Str.ofString "_LoaderBasics") [Value.type "object"] [Value.ref 16, Value.type "object"] 15 (Str.ofString "_LoaderBasics") true [] [Value.ref 27] false none false)) #[]
noncomputable def f17 (P : Params) : Obj := Obj.mk (Value.type "tuple") none (Data.seq #[]) #[]
noncomputable def f18 (P : Params) : Obj := Obj.mk (Value.type "getset_descriptor") none (Data.fields #[Value.str (Str.ofString "__dict__") 201, Value.ref 16, Value.builtin "function.__dict__", Value.builtin "function.__dict__#set"]) #[]
noncomputable def f19 (P : Params) : Obj := Obj.mk (Value.type "getset_descriptor") none (Data.fields #[Value.str (Str.ofString "__weakref__") 203, Value.ref 16, Value.builtin "ExceptionGroup.__weakref__", Value.none]) #[]
noncomputable def f20 (P : Params) : Obj := Obj.mk Value.none none (Data.seq #[Value.int 15 0, Value.str (Str.ofString "\x06Á\n__module__\x06¿\x1a_frozen_importlib_external\x06Â\x0f__firstlineno__\x04À\x00ϩ\x06Ã\x07__doc__\t;_frozen_importlib_external._LoaderBasics.__doc__:str#opaque\x06Ä\nis_package\t:_frozen_importlib_external._LoaderBasics.is_package#opaque\x06Å\x0dcreate_module\t=_frozen_importlib_external._LoaderBasics.create_module#opaque\x06Æ\x0bexec_module\t;_frozen_importlib_external._LoaderBasics.exec_module#opaque\x06Ç\x0bload_module\t;_frozen_importlib_external._LoaderBasics.load_module#opaque\x06È\x15__static_attributes__\x04\x00\x00\x11\x06Ê\x08__dict__\x04\x00\x00\x12\x06Ì\x0b__weakref__\x04\x00\x00\x13") 0, Value.bool true, Value.bool true, Value.str (Str.ofString "") 205, Value.int 21 0, Value.str (Str.ofString "\x06Ô\n__module__\x06Ð\x1a_frozen_importlib_external\x06Õ\x0f__firstlineno__\x04Ñ\x00Ҙ\x06Ö\x07__doc__\t8_frozen_importlib_external.FileLoader.__doc__:str#opaque\x06×\x08__init__\t5_frozen_importlib_external.FileLoader.__init__#opaque\x06Ø\x06__eq__\t3_frozen_importlib_external.FileLoader.__eq__#opaque\x06Ù\x08__hash__\t5_frozen_importlib_external.FileLoader.__hash__#opaque\x06Ú\x0bload_module\t8_frozen_importlib_external.FileLoader.load_module#opaque\x06Û\x0cget_filename\t9_frozen_importlib_external.FileLoader.get_filename#opaque\x06Ü\x08get_data\t5_frozen_importlib_external.FileLoader.get_data#opaque\x06Ý\x13get_resource_reader\t@_frozen_importlib_external.FileLoader.get_resource_reader#opaque\x06Þ\x15__static_attributes__\x04\x00\x00\x17\x06à\x08__dict__\x04\x00\x00\x18\x06â\x0b__weakref__\x04\x00\x00\x19") 0, Value.bool true, Value.bool true, Value.str (Str.ofString "") 227, Value.int 26 0, Value.str (Str.ofString "\x06é\n__module__\x06å\x1a_frozen_importlib_external\x06ê\x0f__firstlineno__\x04æ\x00Ԑ\x06ë\x07__doc__\tA_frozen_importlib_external.ExtensionFileLoader.__doc__:str#opaque\x06ì\x08__init__\t>_frozen_importlib_external.ExtensionFileLoader.__init__#opaque\x06í\x06__eq__\t<_frozen_importlib_external.ExtensionFileLoader.__eq__#opaque\x06î\x08__hash__\t>_frozen_importlib_external.ExtensionFileLoader.__hash__#opaque\x06ï\x0dcreate_module\tC_frozen_importlib_external.ExtensionFileLoader.create_module#opaque\x06ð\x0bexec_module\tA_frozen_importlib_external.ExtensionFileLoader.exec_module#opaque\x06ñ\nis_package\t@_frozen_importlib_external.ExtensionFileLoader.is_package#opaque\x06ò\x08get_code\t>_frozen_importlib_external.ExtensionFileLoader.get_code#opaque\x06ó\nget_source\t@_frozen_importlib_external.ExtensionFileLoader.get_source#opaque\x06ô\x0cget_filename\tB_frozen_importlib_external.ExtensionFileLoader.get_filename#opaque\x06õ\x15__static_attributes__\x04\x00\x00\x1c") 0, Value.bool true, Value.bool true, Value.str (Str.ofString "") 246, Value.int 32 0, Value.str (Str.ofString "\x06ċ\n__module__\x06ā\x11_frozen_importlib\x06Č\x0f__firstlineno__\x04Ă\x00Ȳ\x06č\x07__doc__\t/_frozen_importlib.ModuleSpec.__doc__:str#opaque\x06Ď\x08__init__\t,_frozen_importlib.ModuleSpec.__init__#opaque\x06ď\x08__repr__\t,_frozen_importlib.ModuleSpec.__repr__#opaque\x06Đ\x06__eq__\t*_frozen_importlib.ModuleSpec.__eq__#opaque\x06đ\x06cached\t*_frozen_importlib.ModuleSpec.cached#opaque\x06Ē\x06parent\t*_frozen_importlib.ModuleSpec.parent#opaque\x06ē\x0chas_location\t0_frozen_importlib.ModuleSpec.has_location#opaque\x06Ĕ\x15__static_attributes__\x04\x00\x00\"\x06Ė\x08__dict__\x04\x00\x00#\x06Ę\x0b__weakref__\x04\x00\x00$\x06ę\x08__hash__\x00") 0, Value.bool true, Value.bool true, Value.str (Str.ofString "") 282] 3) #[]
noncomputable def f21 (P : Params) : Obj := Obj.mk (Value.type "dict") none (Data.dict #[DictEntry.mk (PyData.keyHash P (Str.ofString "__module__")) (Value.str (Str.ofString "__module__") 212) (Value.str (Str.ofString "_frozen_importlib_external") 208), DictEntry.mk (PyData.keyHash P (Str.ofString "__firstlineno__")) (Value.str (Str.ofString "__firstlineno__") 213) (Value.int 1176 209), DictEntry.mk (PyData.keyHash P (Str.ofString "__doc__")) (Value.str (Str.ofString "__doc__") 214) (Value.builtin "_frozen_importlib_external.FileLoader.__doc__:str#opaque"), DictEntry.mk (PyData.keyHash P (Str.ofString "__init__")) (Value.str (Str.ofString "__init__") 215) (Value.builtin "_frozen_importlib_external.FileLoader.__init__#opaque"), DictEntry.mk (PyData.keyHash P (Str.ofString "__eq__")) (Value.str (Str.ofString "__eq__") 216) (Value.builtin "_frozen_importlib_external.FileLoader.__eq__#opaque"), DictEntry.mk (PyData.keyHash P (Str.ofString "__hash__")) (Value.str (Str.ofString "__hash__") 217) (Value.builtin "_frozen_importlib_external.FileLoader.__hash__#opaque"), DictEntry.mk (PyData.keyHash P (Str.ofString "load_module")) (Value.str (Str.ofString "load_module") 218) (Value.builtin "_frozen_importlib_external.FileLoader.load_module#opaque"), DictEntry.mk (PyData.keyHash P (Str.ofString "get_filename")) (Value.str (Str.ofString "get_filename") 219) (Value.builtin "_frozen_importlib_external.FileLoader.get_filename#opaque"), DictEntry.mk (PyData.keyHash P (Str.ofString "get_data")) (Value.str (Str.ofString "get_data") 220) (Value.builtin "_frozen_importlib_external.FileLoader.get_data#opaque"), DictEntry.mk (PyData.keyHash P (Str.ofString "get_resource_reader")) (Value.str (Str.ofString "get_resource_reader") 221) (Value.builtin "_frozen_importlib_external.FileLoader.get_resource_reader#opaque"), DictEntry.mk (PyData.keyHash P (Str.ofString "__static_attributes__")) (Value.str (Str.ofString "__static_attributes__") 222) (Value.ref 23), DictEntry.mk (PyData.keyHash P (Str.ofString "__dict__")) (Value.str (Str.ofString "__dict__") 224) (Value.ref 24), DictEntry.mk (PyData.keyHash P (Str.ofString "__weakref__")) (Value.str (Str.ofString "__weakref__") 226) (Value.ref 25)] 13) #[]
noncomputable def f22 (P : Params) : Obj := Obj.mk (Value.type "type") none (Data.cls (ClassData.mk (Str.ofString "FileLoader") [Value.type "object"] [Value.ref 22, Value.type "object"] 21 (Str.ofString "FileLoader") true [] [Value.ref 27] false none false)) #[]
noncomputable def f23 (P : Params) : Obj := Obj.mk (Value.type "tuple") none (Data.seq #[Value.str (Str.ofString "name") 210, Value.str (Str.ofString "path") 211]) #[]
noncomputable def f24 (P : Params) : Obj := Obj.mk (Value.type "getset_descriptor") none (Data.fields #[Value.str (Str.ofString "__dict__") 223, Value.ref 22, Value.builtin "function.__dict__", Value.builtin "function.__dict__#set"]) #[]
noncomputable def f25 (P : Params) : Obj := Obj.mk (Value.type "getset_descriptor") none (Data.fields #[Value.str (Str.ofString "__weakref__") 225, Value.ref 22, Value.builtin "ExceptionGroup.__weakref__", Value.none]) #[]
noncomputable def f26 (P : Params) : Obj := Obj.mk (Value.type "dict") none (Data.dict #[DictEntry.mk (PyData.keyHash P (Str.ofString "__module__")) (Value.str (Str.ofString "__module__") 233) (Value.str (Str.ofString "_frozen_importlib_external") 229), DictEntry.mk (PyData.keyHash P (Str.ofString "__firstlineno__")) (Value.str (Str.ofString "__firstlineno__") 234) (Value.int 1296 230), DictEntry.mk (PyData.keyHash P (Str.ofString "__doc__")) (Value.str (Str.ofString "__doc__") 235) (Value.builtin "_frozen_importlib_external.ExtensionFileLoader.__doc__:str#opaque"), DictEntry.mk (PyData.keyHash P (Str.ofString "__init__")) (Value.str (Str.ofString "__init__") 236) (Value.builtin "_frozen_importlib_external.ExtensionFileLoader.__init__#opaque"), DictEntry.mk (PyData.keyHash P (Str.ofString "__eq__")) (Value.str (Str.ofString "__eq__") 237) (Value.builtin "_frozen_importlib_external.ExtensionFileLoader.__eq__#opaque"), DictEntry.mk (PyData.keyHash P (Str.ofString "__hash__")) (Value.str (Str.ofString "__hash__") 238) (Value.builtin "_frozen_importlib_external.ExtensionFileLoader.__hash__#opaque"), DictEntry.mk (PyData.keyHash P (Str.ofString "create_module")) (Value.str (Str.ofString "create_module") 239) (Value.builtin "_frozen_importlib_external.ExtensionFileLoader.create_module#opaque"), DictEntry.mk (PyData.keyHash P (Str.ofString "exec_module")) (Value.str (Str.ofString "exec_module") 240) (Value.builtin "_frozen_importlib_external.ExtensionFileLoader.exec_module#opaque"), DictEntry.mk (PyData.keyHash P (Str.ofString "is_package")) (Value.str (Str.ofString "is_package") 241) (Value.builtin "_frozen_importlib_external.ExtensionFileLoader.is_package#opaque"), DictEntry.mk (PyData.keyHash P (Str.ofString "get_code")) (Value.str (Str.ofString "get_code") 242) (Value.builtin "_frozen_importlib_external.ExtensionFileLoader.get_code#opaque"), DictEntry.mk (PyData.keyHash P (Str.ofString "get_source")) (Value.str (Str.ofString "get_source") 243) (Value.builtin "_frozen_importlib_external.ExtensionFileLoader.get_source#opaque"), DictEntry.mk (PyData.keyHash P (Str.ofString "get_filename")) (Value.str (Str.ofString "get_filename") 244) (Value.builtin "_frozen_importlib_external.ExtensionFileLoader.get_filename#opaque"), DictEntry.mk (PyData.keyHash P (Str.ofString "__static_attributes__")) (Value.str (Str.ofString "__static_attributes__") 245) (Value.ref 28)] 13) #[]
noncomputable def f27 (P : Params) : Obj := Obj.mk (Value.type "type") none (Data.cls (ClassData.mk (Str.ofString "ExtensionFileLoader") [Value.ref 22, Value.ref 16] [Value.ref 27, Value.ref 22, Value.ref 16, Value.type "object"] 26 (Str.ofString "ExtensionFileLoader") true [] [] false none false)) #[]
noncomputable def f28 (P : Params) : Obj := Obj.mk (Value.type "tuple") none (Data.seq #[Value.str (Str.ofString "name") 231, Value.str (Str.ofString "path") 232]) #[]
noncomputable def f29 (P : Params) : Obj := Obj.mk (Value.ref 27) (some 14) Data.plain #[]
noncomputable def f30 (P : Params) : Obj := Obj.mk (Value.type "list") none (Data.seq #[]) #[]
noncomputable def f31 (P : Params) : Obj := Obj.mk (Value.type "dict") none (Data.dict #[DictEntry.mk (PyData.keyHash P (Str.ofString "name")) (Value.str (Str.ofString "name") 248) (Value.str (Str.ofString "_struct") 247), DictEntry.mk (PyData.keyHash P (Str.ofString "loader")) (Value.str (Str.ofString "loader") 249) (Value.ref 29), DictEntry.mk (PyData.keyHash P (Str.ofString "origin")) (Value.str (Str.ofString "origin") 250) (Value.str (Str.ofString "/nix/store/wj1f56qky4pmjc7l0r6b6l7whnnw7hp6-python3-3.13.15/lib/python3.13/lib-dynload/_struct.cpython-313-x86_64-linux-gnu.so") 186), DictEntry.mk (PyData.keyHash P (Str.ofString "loader_state")) (Value.str (Str.ofString "loader_state") 251) Value.none, DictEntry.mk (PyData.keyHash P (Str.ofString "submodule_search_locations")) (Value.str (Str.ofString "submodule_search_locations") 252) Value.none, DictEntry.mk (PyData.keyHash P (Str.ofString "_uninitialized_submodules")) (Value.str (Str.ofString "_uninitialized_submodules") 253) (Value.ref 30), DictEntry.mk (PyData.keyHash P (Str.ofString "_set_fileattr")) (Value.str (Str.ofString "_set_fileattr") 254) (Value.bool true), DictEntry.mk (PyData.keyHash P (Str.ofString "_cached")) (Value.str (Str.ofString "_cached") 255) Value.none, DictEntry.mk (PyData.keyHash P (Str.ofString "_initializing")) (Value.str (Str.ofString "_initializing") 283) (Value.bool false)] 9) #[]
noncomputable def f32 (P : Params) : Obj := Obj.mk (Value.type "dict") none (Data.dict #[DictEntry.mk (PyData.keyHash P (Str.ofString "__module__")) (Value.str (Str.ofString "__module__") 267) (Value.str (Str.ofString "_frozen_importlib") 257), DictEntry.mk (PyData.keyHash P (Str.ofString "__firstlineno__")) (Value.str (Str.ofString "__firstlineno__") 268) (Value.int 562 258), DictEntry.mk (PyData.keyHash P (Str.ofString "__doc__")) (Value.str (Str.ofString "__doc__") 269) (Value.builtin "_frozen_importlib.ModuleSpec.__doc__:str#opaque"), DictEntry.mk (PyData.keyHash P (Str.ofString "__init__")) (Value.str (Str.ofString "__init__") 270) (Value.builtin "_frozen_importlib.ModuleSpec.__init__#opaque"), DictEntry.mk (PyData.keyHash P (Str.ofString "__repr__")) (Value.str (Str.ofString "__repr__") 271) (Value.builtin "_frozen_importlib.ModuleSpec.__repr__#opaque"), DictEntry.mk (PyData.keyHash P (Str.ofString "__eq__")) (Value.str (Str.ofString "__eq__") 272) (Value.builtin "_frozen_importlib.ModuleSpec.__eq__#opaque"), DictEntry.mk (PyData.keyHash P (Str.ofString "cached")) (Value.str (Str.ofString "cached") 273) (Value.builtin "_frozen_importlib.ModuleSpec.cached#opaque"), DictEntry.mk (PyData.keyHash P (Str.ofString "parent")) (Value.str (Str.ofString "parent") 274) (Value.builtin "_frozen_importlib.ModuleSpec.parent#opaque"), DictEntry.mk (PyData.keyHash P (Str.ofString "has_location")) (Value.str (Str.ofString "has_location") 275) (Value.builtin "_frozen_importlib.ModuleSpec.has_location#opaque"), DictEntry.mk (PyData.keyHash P (Str.ofString "__static_attributes__")) (Value.str (Str.ofString "__static_attributes__") 276) (Value.ref 34), DictEntry.mk (PyData.keyHash P (Str.ofString "__dict__")) (Value.str (Str.ofString "__dict__") 278) (Value.ref 35), DictEntry.mk (PyData.keyHash P (Str.ofString "__weakref__")) (Value.str (Str.ofString "__weakref__") 280) (Value.ref 36), DictEntry.mk (PyData.keyHash P (Str.ofString "__hash__")) (Value.str (Str.ofString "__hash__") 281) Value.none] 13) #[]
noncomputable def f33 (P : Params) : Obj := Obj.mk (Value.type "type") none (Data.cls (ClassData.mk (Str.ofString "ModuleSpec") [Value.type "object"] [Value.ref 33, Value.type "object"] 32 (Str.ofString "ModuleSpec") true [] [] false none false)) #[]
noncomputable def f34 (P : Params) : Obj := Obj.mk (Value.type "tuple") none (Data.seq #[Value.str (Str.ofString "_cached") 259, Value.str (Str.ofString "_set_fileattr") 260, Value.str (Str.ofString "_uninitialized_submodules") 261, Value.str (Str.ofString "loader") 262, Value.str (Str.ofString "loader_state") 263, Value.str (Str.ofString "name") 264, Value.str (Str.ofString "origin") 265, Value.str (Str.ofString "submodule_search_locations") 266]) #[]
noncomputable def f35 (P : Params) : Obj := Obj.mk (Value.type "getset_descriptor") none (Data.fields #[Value.str (Str.ofString "__dict__") 277, Value.ref 33, Value.builtin "function.__dict__", Value.builtin "function.__dict__#set"]) #[]
noncomputable def f36 (P : Params) : Obj := Obj.mk (Value.type "getset_descriptor") none (Data.fields #[Value.str (Str.ofString "__weakref__") 279, Value.ref 33, Value.builtin "ExceptionGroup.__weakref__", Value.none]) #[]
noncomputable def f37 (P : Params) : Obj := Obj.mk (Value.ref 33) (some 31) Data.plain #[]
noncomputable def f38 (P : Params) : Obj := Obj.mk Value.none none (Data.seq #[Value.int 12 0, Value.str (Str.ofString "\x06ğ\x08__name__\x06Ğ\x07_struct\x06Ġ\x07__doc__\t\x1a_struct.__doc__:str#opaque\x06Ģ\x0b__package__\x06ġ\x00\x06ģ\n__loader__\x04\x00\x00\x1d\x06Ĥ\x08__spec__\x04\x00\x00%\x06ĥ\x0b_clearcache\t\x13_struct._clearcache\x06Ħ\x08calcsize\t\x10_struct.calcsize\x06ħ\x0biter_unpack\t\x13_struct.iter_unpack\x06Ĩ\x04pack\t\x0c_struct.pack\x06ĩ\tpack_into\t\x11_struct.pack_into\x06Ī\x06unpack\t\x0e_struct.unpack\x06ī\x0bunpack_from\t\x13_struct.unpack_from\x06Ĭ\x08__file__\x06º~/nix/store/wj1f56qky4pmjc7l0r6b6l7whnnw7hp6-python3-3.13.15/lib/python3.13/lib-dynload/_struct.cpython-313-x86_64-linux-gnu.so\x06ĭ\x06Struct\x08\x0e_struct.Struct\x06į\x05error\x08\x0cstruct.error") 0, Value.bool true, Value.bool false, Value.str (Str.ofString "_struct") 305]) #[]
noncomputable def f39 (P : Params) : Obj := Obj.mk (Value.type "tuple") none (Data.seq #[]) #[]
noncomputable def f40 (P : Params) : Obj := Obj.mk Value.none none (Data.fields #[Value.int 2 0, Value.int 0 0, Value.ref 48, Value.int 7 0, Value.int 0 0, Value.ref 55, Value.int 22 0, Value.int 0 0, Value.ref 62, Value.int 42 0, Value.int 0 0, Value.ref 70, Value.int 64 0, Value.int 0 0, Value.ref 78, Value.int 86 0, Value.int 0 0, Value.ref 85, Value.int 88 0, Value.int 0 0, Value.ref 99, Value.int 93 0, Value.int 0 0, Value.ref 120, Value.int 98 0, Value.int 0 0, Value.ref 141, Value.int 103 0, Value.int 0 0, Value.ref 162, Value.int 113 0, Value.int 0 0, Value.ref 184, Value.int 118 0, Value.int 0 0, Value.ref 205, Value.int 129 0, Value.int 18 0, Value.ref 225, Value.int 132 0, Value.int 0 0, Value.ref 241, Value.int 134 0, Value.int 0 0, Value.ref 248, Value.int 136 0, Value.int 0 0, Value.ref 255, Value.int 139 0, Value.int 0 0, Value.ref 262, Value.int 169 0, Value.int 0 0, Value.ref 301, Value.int 206 0, Value.int 0 0, Value.ref 368, Value.int 227 0, Value.int 0 0, Value.ref 398, Value.int 229 0, Value.int 0 0, Value.ref 405, Value.int 231 0, Value.int 0 0, Value.ref 413, Value.int 271 0, Value.int 0 0, Value.ref 450, Value.int 288 0, Value.int 0 0, Value.ref 457, Value.int 297 0, Value.int 0 0, Value.ref 465, Value.int 308 0, Value.int 0 0, Value.ref 472, Value.int 317 0, Value.int 0 0, Value.ref 479, Value.int 345 0, Value.int 0 0, Value.ref 486, Value.int 367 0, Value.int 0 0, Value.ref 493, Value.int 370 0, Value.int 0 0, Value.ref 501, Value.int 380 0, Value.int 0 0, Value.ref 508, Value.int 394 0, Value.int 0 0, Value.ref 513, Value.int 396 0, Value.int 0 0, Value.ref 520, Value.int 401 0, Value.int 0 0, Value.ref 525]) #[]
noncomputable def f41 (P : Params) : Obj := Obj.mk (Value.type "code") none (Data.fields #[Value.str (Str.ofString "<module>") 314, Value.str (Str.ofString "<module>") 315, Value.str (Str.ofString "/claim/cut.py") 316, Value.int 1 0, Value.int 0 0, Value.int 0 0, Value.int 0 0, Value.int 0 0, Value.ref 39, Value.bool false, Value.int 313 0, Value.ref 40, Value.none, Value.none, Value.none, Value.none, Value.int 317 0, Value.int 1 0, Value.str (Str.ofString "/claim/cut.py") 318]) #[]
noncomputable def f42 (P : Params) : Obj := Obj.mk (Value.type "frame") none Data.plain #[some (Value.ref 41), some (Value.ref 3), some (Value.ref 3), none, some (Value.str (Str.ofString "__main__") 164), none, some (Value.ref 0)]
noncomputable def f43 (P : Params) : Obj := Obj.mk (Value.type "tuple") none (Data.seq #[]) #[]
noncomputable def f44 (P : Params) : Obj := Obj.mk Value.none none (Data.fields #[]) #[]
noncomputable def f45 (P : Params) : Obj := Obj.mk (Value.type "tuple") none (Data.seq #[Value.str (Str.ofString "k") 322]) #[]
noncomputable def f46 (P : Params) : Obj := Obj.mk (Value.type "tuple") none (Data.seq #[]) #[]
noncomputable def f47 (P : Params) : Obj := Obj.mk (Value.none) (none) (fdOf [0] fun a b s => FuncData.mk (Str.ofString "_wall") (Str.ofString "_wall") a b s 0 ([]) (Value.none) (Value.none) (Value.none) (Value.none) (none) (Value.none) (Value.none) 0) (#[])
noncomputable def f48 (P : Params) : Obj := Obj.mk (Value.type "code") none (Data.fields #[Value.str (Str.ofString "_wall") 319, Value.str (Str.ofString "_wall") 320, Value.str (Str.ofString "/claim/cut.py") 321, Value.int 2 0, Value.int 1 0, Value.int 0 0, Value.int 0 0, Value.int 3 0, Value.ref 43, Value.bool true, Value.int 313 0, Value.ref 44, Value.none, Value.ref 45, Value.ref 46, Value.ref 47, Value.int 323 0, Value.int 2 0, Value.str (Str.ofString "/claim/cut.py") 324]) #[]
noncomputable def f49 (P : Params) : Obj := Obj.mk (Value.type "function") (none) (fdOf [0] fun a b s => FuncData.mk (Str.ofString "_wall") (Str.ofString "_wall") a b s 3 ([]) (Value.none) (Value.none) (Value.none) (Value.str (Str.ofString "__main__") 164) (none) (Value.ref 48) (Value.none) 0) (#[])
noncomputable def f50 (P : Params) : Obj := Obj.mk (Value.type "tuple") none (Data.seq #[]) #[]
noncomputable def f51 (P : Params) : Obj := Obj.mk Value.none none (Data.fields #[]) #[]
noncomputable def f52 (P : Params) : Obj := Obj.mk (Value.type "tuple") none (Data.seq #[Value.str (Str.ofString "b") 333, Value.str (Str.ofString "n") 334, Value.str (Str.ofString "chars") 335, Value.str (Str.ofString "r") 336, Value.str (Str.ofString "result") 337, Value.str (Str.ofString "pad") 338, Value.str (Str.ofString "c") 339]) #[]
noncomputable def f53 (P : Params) : Obj := Obj.mk (Value.type "tuple") none (Data.seq #[]) #[]
noncomputable def f54 (P : Params) : Obj := Obj.mk (Value.none) (none) (fdOf [3] fun a b s => FuncData.mk (Str.ofString "encode") (Str.ofString "encode") a b s 0 ([]) (Value.none) (Value.none) (Value.none) (Value.none) (none) (Value.none) (Value.none) 0) (#[])
noncomputable def f55 (P : Params) : Obj := Obj.mk (Value.type "code") none (Data.fields #[Value.str (Str.ofString "encode") 330, Value.str (Str.ofString "encode") 331, Value.str (Str.ofString "/claim/cut.py") 332, Value.int 7 0, Value.int 1 0, Value.int 0 0, Value.int 0 0, Value.int 3 0, Value.ref 50, Value.bool true, Value.int 313 0, Value.ref 51, Value.none, Value.ref 52, Value.ref 53, Value.ref 54, Value.int 340 0, Value.int 7 0, Value.str (Str.ofString "/claim/cut.py") 341]) #[]
noncomputable def f56 (P : Params) : Obj := Obj.mk (Value.type "function") (none) (fdOf [3] fun a b s => FuncData.mk (Str.ofString "encode") (Str.ofString "encode") a b s 3 ([]) (Value.none) (Value.none) (Value.none) (Value.str (Str.ofString "embit.base58") 326) (none) (Value.ref 55) (Value.none) 0) (#[])
noncomputable def f57 (P : Params) : Obj := Obj.mk (Value.type "tuple") none (Data.seq #[]) #[]
noncomputable def f58 (P : Params) : Obj := Obj.mk Value.none none (Data.fields #[]) #[]
noncomputable def f59 (P : Params) : Obj := Obj.mk (Value.type "tuple") none (Data.seq #[Value.str (Str.ofString "s") 347, Value.str (Str.ofString "n") 348, Value.str (Str.ofString "c") 349, Value.str (Str.ofString "digit") 350, Value.str (Str.ofString "res") 351, Value.str (Str.ofString "pad") 352]) #[]
noncomputable def f60 (P : Params) : Obj := Obj.mk (Value.type "tuple") none (Data.seq #[]) #[]
noncomputable def f61 (P : Params) : Obj := Obj.mk (Value.none) (none) (fdOf [5] fun a b s => FuncData.mk (Str.ofString "decode") (Str.ofString "decode") a b s 0 ([]) (Value.none) (Value.none) (Value.none) (Value.none) (none) (Value.none) (Value.none) 0) (#[])
noncomputable def f62 (P : Params) : Obj := Obj.mk (Value.type "code") none (Data.fields #[Value.str (Str.ofString "decode") 344, Value.str (Str.ofString "decode") 345, Value.str (Str.ofString "/claim/cut.py") 346, Value.int 22 0, Value.int 1 0, Value.int 0 0, Value.int 0 0, Value.int 3 0, Value.ref 57, Value.bool true, Value.int 313 0, Value.ref 58, Value.none, Value.ref 59, Value.ref 60, Value.ref 61, Value.int 353 0, Value.int 22 0, Value.str (Str.ofString "/claim/cut.py") 354]) #[]
noncomputable def f63 (P : Params) : Obj := Obj.mk (Value.type "function") (none) (fdOf [5] fun a b s => FuncData.mk (Str.ofString "decode") (Str.ofString "decode") a b s 3 ([]) (Value.none) (Value.none) (Value.none) (Value.str (Str.ofString "embit.base58") 326) (none) (Value.ref 62) (Value.none) 0) (#[])
noncomputable def f64 (P : Params) : Obj := Obj.mk (Value.type "tuple") none (Data.seq #[Value.bool true]) #[]
noncomputable def f65 (P : Params) : Obj := Obj.mk (Value.type "tuple") none (Data.seq #[]) #[]
noncomputable def f66 (P : Params) : Obj := Obj.mk Value.none none (Data.fields #[]) #[]
noncomputable def f67 (P : Params) : Obj := Obj.mk (Value.type "tuple") none (Data.seq #[Value.str (Str.ofString "data") 362, Value.str (Str.ofString "frombits") 363, Value.str (Str.ofString "tobits") 364, Value.str (Str.ofString "pad") 365, Value.str (Str.ofString "acc") 366, Value.str (Str.ofString "bits") 367, Value.str (Str.ofString "ret") 368, Value.str (Str.ofString "maxv") 369, Value.str (Str.ofString "max_acc") 370, Value.str (Str.ofString "value") 371]) #[]
noncomputable def f68 (P : Params) : Obj := Obj.mk (Value.type "tuple") none (Data.seq #[]) #[]
noncomputable def f69 (P : Params) : Obj := Obj.mk (Value.none) (none) (fdOf [8] fun a b s => FuncData.mk (Str.ofString "convertbits") (Str.ofString "convertbits") a b s 0 ([]) (Value.none) (Value.none) (Value.none) (Value.none) (none) (Value.none) (Value.none) 0) (#[])
noncomputable def f70 (P : Params) : Obj := Obj.mk (Value.type "code") none (Data.fields #[Value.str (Str.ofString "convertbits") 359, Value.str (Str.ofString "convertbits") 360, Value.str (Str.ofString "/claim/cut.py") 361, Value.int 42 0, Value.int 4 0, Value.int 0 0, Value.int 0 0, Value.int 3 0, Value.ref 65, Value.bool true, Value.int 313 0, Value.ref 66, Value.none, Value.ref 67, Value.ref 68, Value.ref 69, Value.int 372 0, Value.int 42 0, Value.str (Str.ofString "/claim/cut.py") 373]) #[]
noncomputable def f71 (P : Params) : Obj := Obj.mk (Value.type "function") (none) (fdOf [8] fun a b s => FuncData.mk (Str.ofString "convertbits") (Str.ofString "convertbits") a b s 3 ([]) (Value.ref 64) (Value.none) (Value.none) (Value.str (Str.ofString "bech32") 357) (none) (Value.ref 70) (Value.none) 0) (#[])
noncomputable def f72 (P : Params) : Obj := Obj.mk (Value.type "tuple") none (Data.seq #[Value.bool true]) #[]
noncomputable def f73 (P : Params) : Obj := Obj.mk (Value.type "tuple") none (Data.seq #[]) #[]
noncomputable def f74 (P : Params) : Obj := Obj.mk Value.none none (Data.fields #[]) #[]
noncomputable def f75 (P : Params) : Obj := Obj.mk (Value.type "tuple") none (Data.seq #[Value.str (Str.ofString "data") 381, Value.str (Str.ofString "frombits") 382, Value.str (Str.ofString "tobits") 383, Value.str (Str.ofString "pad") 384, Value.str (Str.ofString "acc") 385, Value.str (Str.ofString "bits") 386, Value.str (Str.ofString "ret") 387, Value.str (Str.ofString "maxv") 388, Value.str (Str.ofString "max_acc") 389, Value.str (Str.ofString "value") 390]) #[]
noncomputable def f76 (P : Params) : Obj := Obj.mk (Value.type "tuple") none (Data.seq #[]) #[]
noncomputable def f77 (P : Params) : Obj := Obj.mk (Value.none) (none) (fdOf [11] fun a b s => FuncData.mk (Str.ofString "convertbits") (Str.ofString "convertbits") a b s 0 ([]) (Value.none) (Value.none) (Value.none) (Value.none) (none) (Value.none) (Value.none) 0) (#[])
noncomputable def f78 (P : Params) : Obj := Obj.mk (Value.type "code") none (Data.fields #[Value.str (Str.ofString "convertbits") 378, Value.str (Str.ofString "convertbits") 379, Value.str (Str.ofString "/claim/cut.py") 380, Value.int 64 0, Value.int 4 0, Value.int 0 0, Value.int 0 0, Value.int 3 0, Value.ref 73, Value.bool true, Value.int 313 0, Value.ref 74, Value.none, Value.ref 75, Value.ref 76, Value.ref 77, Value.int 391 0, Value.int 64 0, Value.str (Str.ofString "/claim/cut.py") 392]) #[]
noncomputable def f79 (P : Params) : Obj := Obj.mk (Value.type "function") (none) (fdOf [11] fun a b s => FuncData.mk (Str.ofString "convertbits") (Str.ofString "convertbits") a b s 3 ([]) (Value.ref 72) (Value.none) (Value.none) (Value.str (Str.ofString "embit.bech32") 376) (none) (Value.ref 78) (Value.none) 0) (#[])
noncomputable def f80 (P : Params) : Obj := Obj.mk (Value.type "tuple") none (Data.seq #[Value.type "Exception"]) #[]
noncomputable def f81 (P : Params) : Obj := Obj.mk (Value.type "builtin_function_or_method") none (Data.fields #[Value.builtin "type.__prepare__", Value.type "type"]) #[]
noncomputable def f82 (P : Params) : Obj := Obj.mk (Value.type "dict") none (Data.dict #[DictEntry.mk (PyData.keyHash P (Str.ofString "__module__")) (Value.str (Str.ofString "__module__") 404) (Value.str (Str.ofString "rlp.exceptions") 395), DictEntry.mk (PyData.keyHash P (Str.ofString "__qualname__")) (Value.str (Str.ofString "__qualname__") 406) (Value.str (Str.ofString "RLPException") 405), DictEntry.mk (PyData.keyHash P (Str.ofString "__firstlineno__")) (Value.str (Str.ofString "__firstlineno__") 408) (Value.int 86 407), DictEntry.mk (PyData.keyHash P (Str.ofString "__static_attributes__")) (Value.str (Str.ofString "__static_attributes__") 409) (Value.ref 87)] 4) #[]
noncomputable def f83 (P : Params) : Obj := Obj.mk (Value.type "tuple") none (Data.seq #[]) #[]
noncomputable def f84 (P : Params) : Obj := Obj.mk Value.none none (Data.fields #[]) #[]
noncomputable def f85 (P : Params) : Obj := Obj.mk (Value.type "code") none (Data.fields #[Value.str (Str.ofString "RLPException") 399, Value.str (Str.ofString "RLPException") 400, Value.str (Str.ofString "/claim/cut.py") 401, Value.int 86 0, Value.int 0 0, Value.int 0 0, Value.int 0 0, Value.int 0 0, Value.ref 83, Value.bool false, Value.int 313 0, Value.ref 84, Value.none, Value.none, Value.none, Value.none, Value.int 402 0, Value.int 86 0, Value.str (Str.ofString "/claim/cut.py") 403]) #[]
noncomputable def f86 (P : Params) : Obj := Obj.mk (Value.type "frame") none Data.plain #[some (Value.ref 85), some (Value.ref 3), some (Value.ref 82), none, some (Value.str (Str.ofString "rlp.exceptions") 395), none, some (Value.ref 0)]
noncomputable def f87 (P : Params) : Obj := Obj.mk (Value.type "tuple") none (Data.seq #[]) #[]
noncomputable def f88 (P : Params) : Obj := Obj.mk (Value.type "dict") none (Data.dict #[DictEntry.mk (PyData.keyHash P (Str.ofString "__module__")) (Value.str (Str.ofString "__module__") 404) (Value.str (Str.ofString "rlp.exceptions") 395), DictEntry.mk (PyData.keyHash P (Str.ofString "__firstlineno__")) (Value.str (Str.ofString "__firstlineno__") 408) (Value.int 86 407), DictEntry.mk (PyData.keyHash P (Str.ofString "__static_attributes__")) (Value.str (Str.ofString "__static_attributes__") 409) (Value.ref 87), DictEntry.mk (PyData.keyHash P (Str.ofString "__weakref__")) (Value.str (Str.ofString "__weakref__") 411) (Value.ref 90), DictEntry.mk (PyData.keyHash P (Str.ofString "__doc__")) (Value.str (Str.ofString "__doc__") 412) Value.none] 3) #[]
noncomputable def f89 (P : Params) : Obj := Obj.mk (Value.type "type") none (Data.cls (ClassData.mk (Str.ofString "RLPException") [Value.type "Exception"] [Value.ref 89, Value.type "Exception", Value.type "BaseException", Value.type "object"] 88 (Str.ofString "RLPException") true [] [Value.ref 111, Value.ref 132, Value.ref 153, Value.ref 196] false none false)) #[some (Value.ref 80), none, some (Value.str (Str.ofString "RLPException") 397), some (Value.str (Str.ofString "RLPException") 405), some (Value.builtin "Exception.__new__"), some (Value.bool true)]
noncomputable def f90 (P : Params) : Obj := Obj.mk (Value.type "getset_descriptor") none (Data.fields #[Value.str (Str.ofString "__weakref__") 410, Value.ref 89, Value.builtin "ExceptionGroup.__weakref__", Value.none]) #[]
noncomputable def f91 (P : Params) : Obj := Obj.mk (Value.type "super") none (Data.fields #[Value.ref 89, Value.ref 89, Value.ref 89]) #[]
noncomputable def f92 (P : Params) : Obj := Obj.mk (Value.type "builtin_function_or_method") none (Data.fields #[Value.builtin "object.__init_subclass__", Value.ref 89]) #[]
noncomputable def f93 (P : Params) : Obj := Obj.mk (Value.type "tuple") none (Data.seq #[Value.ref 89]) #[]
noncomputable def f94 (P : Params) : Obj := Obj.mk (Value.type "builtin_function_or_method") none (Data.fields #[Value.builtin "type.__prepare__", Value.type "type"]) #[]
noncomputable def f95 (P : Params) : Obj := Obj.mk (Value.type "dict") none (Data.dict #[DictEntry.mk (PyData.keyHash P (Str.ofString "__module__")) (Value.str (Str.ofString "__module__") 424) (Value.str (Str.ofString "rlp.exceptions") 395), DictEntry.mk (PyData.keyHash P (Str.ofString "__qualname__")) (Value.str (Str.ofString "__qualname__") 426) (Value.str (Str.ofString "EncodingError") 425), DictEntry.mk (PyData.keyHash P (Str.ofString "__firstlineno__")) (Value.str (Str.ofString "__firstlineno__") 428) (Value.int 88 427), DictEntry.mk (PyData.keyHash P (Str.ofString "__init__")) (Value.str (Str.ofString "__init__") 438) (Value.ref 108), DictEntry.mk (PyData.keyHash P (Str.ofString "__static_attributes__")) (Value.str (Str.ofString "__static_attributes__") 440) (Value.ref 109), DictEntry.mk (PyData.keyHash P (Str.ofString "__classcell__")) (Value.str (Str.ofString "__classcell__") 441) (Value.ref 96)] 6) #[]
noncomputable def f96 (P : Params) : Obj := Obj.mk (Value.type "cell") none (Data.cell (some (Value.ref 111))) #[]
noncomputable def f97 (P : Params) : Obj := Obj.mk (Value.type "tuple") none (Data.seq #[]) #[]
noncomputable def f98 (P : Params) : Obj := Obj.mk Value.none none (Data.fields #[Value.int 90 0, Value.int 4 0, Value.ref 107]) #[]
noncomputable def f99 (P : Params) : Obj := Obj.mk (Value.type "code") none (Data.fields #[Value.str (Str.ofString "EncodingError") 419, Value.str (Str.ofString "EncodingError") 420, Value.str (Str.ofString "/claim/cut.py") 421, Value.int 88 0, Value.int 0 0, Value.int 0 0, Value.int 0 0, Value.int 0 0, Value.ref 97, Value.bool false, Value.int 313 0, Value.ref 98, Value.none, Value.none, Value.none, Value.none, Value.int 422 0, Value.int 88 0, Value.str (Str.ofString "/claim/cut.py") 423]) #[]
noncomputable def f100 (P : Params) : Obj := Obj.mk (Value.type "frame") none Data.plain #[some (Value.ref 99), some (Value.ref 3), some (Value.ref 95), none, some (Value.str (Str.ofString "rlp.exceptions") 395), none, some (Value.ref 0)]
noncomputable def f101 (P : Params) : Obj := Obj.mk (Value.type "tuple") none (Data.seq #[Value.ref 96]) #[]
noncomputable def f102 (P : Params) : Obj := Obj.mk (Value.type "tuple") none (Data.seq #[Value.str (Str.ofString "__class__") 432]) #[]
noncomputable def f103 (P : Params) : Obj := Obj.mk Value.none none (Data.fields #[]) #[]
noncomputable def f104 (P : Params) : Obj := Obj.mk (Value.type "tuple") none (Data.seq #[Value.str (Str.ofString "self") 433, Value.str (Str.ofString "message") 434, Value.str (Str.ofString "obj") 435]) #[]
noncomputable def f105 (P : Params) : Obj := Obj.mk (Value.type "tuple") none (Data.seq #[]) #[]
noncomputable def f106 (P : Params) : Obj := Obj.mk (Value.none) (none) (fdOf [15, 0] fun a b s => FuncData.mk (Str.ofString "__init__") (Str.ofString "EncodingError.__init__") a b s 0 ([]) (Value.none) (Value.none) (Value.none) (Value.none) (none) (Value.none) (Value.none) 0) (#[])
noncomputable def f107 (P : Params) : Obj := Obj.mk (Value.type "code") none (Data.fields #[Value.str (Str.ofString "__init__") 429, Value.str (Str.ofString "EncodingError.__init__") 430, Value.str (Str.ofString "/claim/cut.py") 431, Value.int 90 0, Value.int 3 0, Value.int 0 0, Value.int 0 0, Value.int 3 0, Value.ref 102, Value.bool true, Value.int 313 0, Value.ref 103, Value.none, Value.ref 104, Value.ref 105, Value.ref 106, Value.int 436 0, Value.int 90 0, Value.str (Str.ofString "/claim/cut.py") 437]) #[]
noncomputable def f108 (P : Params) : Obj := Obj.mk (Value.type "function") (none) (fdOf [15, 0] fun a b s => FuncData.mk (Str.ofString "__init__") (Str.ofString "EncodingError.__init__") a b s 3 ([(Str.ofString "__class__", 96)]) (Value.none) (Value.none) (Value.none) (Value.str (Str.ofString "rlp.exceptions") 395) (none) (Value.ref 107) (Value.ref 101) 0) (#[])
noncomputable def f109 (P : Params) : Obj := Obj.mk (Value.type "tuple") none (Data.seq #[Value.str (Str.ofString "obj") 439]) #[]
noncomputable def f110 (P : Params) : Obj := Obj.mk (Value.type "dict") none (Data.dict #[DictEntry.mk (PyData.keyHash P (Str.ofString "__module__")) (Value.str (Str.ofString "__module__") 424) (Value.str (Str.ofString "rlp.exceptions") 395), DictEntry.mk (PyData.keyHash P (Str.ofString "__firstlineno__")) (Value.str (Str.ofString "__firstlineno__") 428) (Value.int 88 427), DictEntry.mk (PyData.keyHash P (Str.ofString "__init__")) (Value.str (Str.ofString "__init__") 438) (Value.ref 108), DictEntry.mk (PyData.keyHash P (Str.ofString "__static_attributes__")) (Value.str (Str.ofString "__static_attributes__") 440) (Value.ref 109), DictEntry.mk (PyData.keyHash P (Str.ofString "__doc__")) (Value.str (Str.ofString "__doc__") 442) Value.none] 3) #[]
noncomputable def f111 (P : Params) : Obj := Obj.mk (Value.type "type") none (Data.cls (ClassData.mk (Str.ofString "EncodingError") [Value.ref 89] [Value.ref 111, Value.ref 89, Value.type "Exception", Value.type "BaseException", Value.type "object"] 110 (Str.ofString "EncodingError") true [] [] false none false)) #[some (Value.ref 93), none, some (Value.str (Str.ofString "EncodingError") 417), some (Value.str (Str.ofString "EncodingError") 425), some (Value.builtin "Exception.__new__"), some (Value.bool true)]
noncomputable def f112 (P : Params) : Obj := Obj.mk (Value.type "super") none (Data.fields #[Value.ref 111, Value.ref 111, Value.ref 111]) #[]
noncomputable def f113 (P : Params) : Obj := Obj.mk (Value.type "builtin_function_or_method") none (Data.fields #[Value.builtin "object.__init_subclass__", Value.ref 111]) #[]
noncomputable def f114 (P : Params) : Obj := Obj.mk (Value.type "tuple") none (Data.seq #[Value.ref 89]) #[]
noncomputable def f115 (P : Params) : Obj := Obj.mk (Value.type "builtin_function_or_method") none (Data.fields #[Value.builtin "type.__prepare__", Value.type "type"]) #[]
noncomputable def f116 (P : Params) : Obj := Obj.mk (Value.type "dict") none (Data.dict #[DictEntry.mk (PyData.keyHash P (Str.ofString "__module__")) (Value.str (Str.ofString "__module__") 452) (Value.str (Str.ofString "rlp.exceptions") 395), DictEntry.mk (PyData.keyHash P (Str.ofString "__qualname__")) (Value.str (Str.ofString "__qualname__") 454) (Value.str (Str.ofString "DecodingError") 453), DictEntry.mk (PyData.keyHash P (Str.ofString "__firstlineno__")) (Value.str (Str.ofString "__firstlineno__") 456) (Value.int 93 455), DictEntry.mk (PyData.keyHash P (Str.ofString "__init__")) (Value.str (Str.ofString "__init__") 466) (Value.ref 129), DictEntry.mk (PyData.keyHash P (Str.ofString "__static_attributes__")) (Value.str (Str.ofString "__static_attributes__") 468) (Value.ref 130), DictEntry.mk (PyData.keyHash P (Str.ofString "__classcell__")) (Value.str (Str.ofString "__classcell__") 469) (Value.ref 117)] 6) #[]
noncomputable def f117 (P : Params) : Obj := Obj.mk (Value.type "cell") none (Data.cell (some (Value.ref 132))) #[]
noncomputable def f118 (P : Params) : Obj := Obj.mk (Value.type "tuple") none (Data.seq #[]) #[]
noncomputable def f119 (P : Params) : Obj := Obj.mk Value.none none (Data.fields #[Value.int 95 0, Value.int 4 0, Value.ref 128]) #[]
noncomputable def f120 (P : Params) : Obj := Obj.mk (Value.type "code") none (Data.fields #[Value.str (Str.ofString "DecodingError") 447, Value.str (Str.ofString "DecodingError") 448, Value.str (Str.ofString "/claim/cut.py") 449, Value.int 93 0, Value.int 0 0, Value.int 0 0, Value.int 0 0, Value.int 0 0, Value.ref 118, Value.bool false, Value.int 313 0, Value.ref 119, Value.none, Value.none, Value.none, Value.none, Value.int 450 0, Value.int 93 0, Value.str (Str.ofString "/claim/cut.py") 451]) #[]
noncomputable def f121 (P : Params) : Obj := Obj.mk (Value.type "frame") none Data.plain #[some (Value.ref 120), some (Value.ref 3), some (Value.ref 116), none, some (Value.str (Str.ofString "rlp.exceptions") 395), none, some (Value.ref 0)]
noncomputable def f122 (P : Params) : Obj := Obj.mk (Value.type "tuple") none (Data.seq #[Value.ref 117]) #[]
noncomputable def f123 (P : Params) : Obj := Obj.mk (Value.type "tuple") none (Data.seq #[Value.str (Str.ofString "__class__") 460]) #[]
noncomputable def f124 (P : Params) : Obj := Obj.mk Value.none none (Data.fields #[]) #[]
noncomputable def f125 (P : Params) : Obj := Obj.mk (Value.type "tuple") none (Data.seq #[Value.str (Str.ofString "self") 461, Value.str (Str.ofString "message") 462, Value.str (Str.ofString "rlp") 463]) #[]
noncomputable def f126 (P : Params) : Obj := Obj.mk (Value.type "tuple") none (Data.seq #[]) #[]
noncomputable def f127 (P : Params) : Obj := Obj.mk (Value.none) (none) (fdOf [16, 0] fun a b s => FuncData.mk (Str.ofString "__init__") (Str.ofString "DecodingError.__init__") a b s 0 ([]) (Value.none) (Value.none) (Value.none) (Value.none) (none) (Value.none) (Value.none) 0) (#[])
noncomputable def f128 (P : Params) : Obj := Obj.mk (Value.type "code") none (Data.fields #[Value.str (Str.ofString "__init__") 457, Value.str (Str.ofString "DecodingError.__init__") 458, Value.str (Str.ofString "/claim/cut.py") 459, Value.int 95 0, Value.int 3 0, Value.int 0 0, Value.int 0 0, Value.int 3 0, Value.ref 123, Value.bool true, Value.int 313 0, Value.ref 124, Value.none, Value.ref 125, Value.ref 126, Value.ref 127, Value.int 464 0, Value.int 95 0, Value.str (Str.ofString "/claim/cut.py") 465]) #[]
noncomputable def f129 (P : Params) : Obj := Obj.mk (Value.type "function") (none) (fdOf [16, 0] fun a b s => FuncData.mk (Str.ofString "__init__") (Str.ofString "DecodingError.__init__") a b s 3 ([(Str.ofString "__class__", 117)]) (Value.none) (Value.none) (Value.none) (Value.str (Str.ofString "rlp.exceptions") 395) (none) (Value.ref 128) (Value.ref 122) 0) (#[])
noncomputable def f130 (P : Params) : Obj := Obj.mk (Value.type "tuple") none (Data.seq #[Value.str (Str.ofString "rlp") 467]) #[]
noncomputable def f131 (P : Params) : Obj := Obj.mk (Value.type "dict") none (Data.dict #[DictEntry.mk (PyData.keyHash P (Str.ofString "__module__")) (Value.str (Str.ofString "__module__") 452) (Value.str (Str.ofString "rlp.exceptions") 395), DictEntry.mk (PyData.keyHash P (Str.ofString "__firstlineno__")) (Value.str (Str.ofString "__firstlineno__") 456) (Value.int 93 455), DictEntry.mk (PyData.keyHash P (Str.ofString "__init__")) (Value.str (Str.ofString "__init__") 466) (Value.ref 129), DictEntry.mk (PyData.keyHash P (Str.ofString "__static_attributes__")) (Value.str (Str.ofString "__static_attributes__") 468) (Value.ref 130), DictEntry.mk (PyData.keyHash P (Str.ofString "__doc__")) (Value.str (Str.ofString "__doc__") 470) Value.none] 3) #[]
noncomputable def f132 (P : Params) : Obj := Obj.mk (Value.type "type") none (Data.cls (ClassData.mk (Str.ofString "DecodingError") [Value.ref 89] [Value.ref 132, Value.ref 89, Value.type "Exception", Value.type "BaseException", Value.type "object"] 131 (Str.ofString "DecodingError") true [] [] false none false)) #[some (Value.ref 114), none, some (Value.str (Str.ofString "DecodingError") 445), some (Value.str (Str.ofString "DecodingError") 453), some (Value.builtin "Exception.__new__"), some (Value.bool true)]
noncomputable def f133 (P : Params) : Obj := Obj.mk (Value.type "super") none (Data.fields #[Value.ref 132, Value.ref 132, Value.ref 132]) #[]
noncomputable def f134 (P : Params) : Obj := Obj.mk (Value.type "builtin_function_or_method") none (Data.fields #[Value.builtin "object.__init_subclass__", Value.ref 132]) #[]
noncomputable def f135 (P : Params) : Obj := Obj.mk (Value.type "tuple") none (Data.seq #[Value.ref 89]) #[]
noncomputable def f136 (P : Params) : Obj := Obj.mk (Value.type "builtin_function_or_method") none (Data.fields #[Value.builtin "type.__prepare__", Value.type "type"]) #[]
noncomputable def f137 (P : Params) : Obj := Obj.mk (Value.type "dict") none (Data.dict #[DictEntry.mk (PyData.keyHash P (Str.ofString "__module__")) (Value.str (Str.ofString "__module__") 480) (Value.str (Str.ofString "rlp.exceptions") 395), DictEntry.mk (PyData.keyHash P (Str.ofString "__qualname__")) (Value.str (Str.ofString "__qualname__") 482) (Value.str (Str.ofString "SerializationError") 481), DictEntry.mk (PyData.keyHash P (Str.ofString "__firstlineno__")) (Value.str (Str.ofString "__firstlineno__") 484) (Value.int 98 483), DictEntry.mk (PyData.keyHash P (Str.ofString "__init__")) (Value.str (Str.ofString "__init__") 494) (Value.ref 150), DictEntry.mk (PyData.keyHash P (Str.ofString "__static_attributes__")) (Value.str (Str.ofString "__static_attributes__") 496) (Value.ref 151), DictEntry.mk (PyData.keyHash P (Str.ofString "__classcell__")) (Value.str (Str.ofString "__classcell__") 497) (Value.ref 138)] 6) #[]
noncomputable def f138 (P : Params) : Obj := Obj.mk (Value.type "cell") none (Data.cell (some (Value.ref 153))) #[]
noncomputable def f139 (P : Params) : Obj := Obj.mk (Value.type "tuple") none (Data.seq #[]) #[]
noncomputable def f140 (P : Params) : Obj := Obj.mk Value.none none (Data.fields #[Value.int 100 0, Value.int 4 0, Value.ref 149]) #[]
noncomputable def f141 (P : Params) : Obj := Obj.mk (Value.type "code") none (Data.fields #[Value.str (Str.ofString "SerializationError") 475, Value.str (Str.ofString "SerializationError") 476, Value.str (Str.ofString "/claim/cut.py") 477, Value.int 98 0, Value.int 0 0, Value.int 0 0, Value.int 0 0, Value.int 0 0, Value.ref 139, Value.bool false, Value.int 313 0, Value.ref 140, Value.none, Value.none, Value.none, Value.none, Value.int 478 0, Value.int 98 0, Value.str (Str.ofString "/claim/cut.py") 479]) #[]
noncomputable def f142 (P : Params) : Obj := Obj.mk (Value.type "frame") none Data.plain #[some (Value.ref 141), some (Value.ref 3), some (Value.ref 137), none, some (Value.str (Str.ofString "rlp.exceptions") 395), none, some (Value.ref 0)]
noncomputable def f143 (P : Params) : Obj := Obj.mk (Value.type "tuple") none (Data.seq #[Value.ref 138]) #[]
noncomputable def f144 (P : Params) : Obj := Obj.mk (Value.type "tuple") none (Data.seq #[Value.str (Str.ofString "__class__") 488]) #[]
noncomputable def f145 (P : Params) : Obj := Obj.mk Value.none none (Data.fields #[]) #[]
noncomputable def f146 (P : Params) : Obj := Obj.mk (Value.type "tuple") none (Data.seq #[Value.str (Str.ofString "self") 489, Value.str (Str.ofString "message") 490, Value.str (Str.ofString "obj") 491]) #[]
noncomputable def f147 (P : Params) : Obj := Obj.mk (Value.type "tuple") none (Data.seq #[]) #[]
noncomputable def f148 (P : Params) : Obj := Obj.mk (Value.none) (none) (fdOf [17, 0] fun a b s => FuncData.mk (Str.ofString "__init__") (Str.ofString "SerializationError.__init__") a b s 0 ([]) (Value.none) (Value.none) (Value.none) (Value.none) (none) (Value.none) (Value.none) 0) (#[])
noncomputable def f149 (P : Params) : Obj := Obj.mk (Value.type "code") none (Data.fields #[Value.str (Str.ofString "__init__") 485, Value.str (Str.ofString "SerializationError.__init__") 486, Value.str (Str.ofString "/claim/cut.py") 487, Value.int 100 0, Value.int 3 0, Value.int 0 0, Value.int 0 0, Value.int 3 0, Value.ref 144, Value.bool true, Value.int 313 0, Value.ref 145, Value.none, Value.ref 146, Value.ref 147, Value.ref 148, Value.int 492 0, Value.int 100 0, Value.str (Str.ofString "/claim/cut.py") 493]) #[]
noncomputable def f150 (P : Params) : Obj := Obj.mk (Value.type "function") (none) (fdOf [17, 0] fun a b s => FuncData.mk (Str.ofString "__init__") (Str.ofString "SerializationError.__init__") a b s 3 ([(Str.ofString "__class__", 138)]) (Value.none) (Value.none) (Value.none) (Value.str (Str.ofString "rlp.exceptions") 395) (none) (Value.ref 149) (Value.ref 143) 0) (#[])
noncomputable def f151 (P : Params) : Obj := Obj.mk (Value.type "tuple") none (Data.seq #[Value.str (Str.ofString "obj") 495]) #[]
noncomputable def f152 (P : Params) : Obj := Obj.mk (Value.type "dict") none (Data.dict #[DictEntry.mk (PyData.keyHash P (Str.ofString "__module__")) (Value.str (Str.ofString "__module__") 480) (Value.str (Str.ofString "rlp.exceptions") 395), DictEntry.mk (PyData.keyHash P (Str.ofString "__firstlineno__")) (Value.str (Str.ofString "__firstlineno__") 484) (Value.int 98 483), DictEntry.mk (PyData.keyHash P (Str.ofString "__init__")) (Value.str (Str.ofString "__init__") 494) (Value.ref 150), DictEntry.mk (PyData.keyHash P (Str.ofString "__static_attributes__")) (Value.str (Str.ofString "__static_attributes__") 496) (Value.ref 151), DictEntry.mk (PyData.keyHash P (Str.ofString "__doc__")) (Value.str (Str.ofString "__doc__") 498) Value.none] 3) #[]
noncomputable def f153 (P : Params) : Obj := Obj.mk (Value.type "type") none (Data.cls (ClassData.mk (Str.ofString "SerializationError") [Value.ref 89] [Value.ref 153, Value.ref 89, Value.type "Exception", Value.type "BaseException", Value.type "object"] 152 (Str.ofString "SerializationError") true [] [Value.ref 175] false none false)) #[some (Value.ref 135), none, some (Value.str (Str.ofString "SerializationError") 473), some (Value.str (Str.ofString "SerializationError") 481), some (Value.builtin "Exception.__new__"), some (Value.bool true)]
noncomputable def f154 (P : Params) : Obj := Obj.mk (Value.type "super") none (Data.fields #[Value.ref 153, Value.ref 153, Value.ref 153]) #[]
noncomputable def f155 (P : Params) : Obj := Obj.mk (Value.type "builtin_function_or_method") none (Data.fields #[Value.builtin "object.__init_subclass__", Value.ref 153]) #[]
noncomputable def f156 (P : Params) : Obj := Obj.mk (Value.type "tuple") none (Data.seq #[Value.ref 153]) #[]
noncomputable def f157 (P : Params) : Obj := Obj.mk (Value.type "builtin_function_or_method") none (Data.fields #[Value.builtin "type.__prepare__", Value.type "type"]) #[]
noncomputable def f158 (P : Params) : Obj := Obj.mk (Value.type "dict") none (Data.dict #[DictEntry.mk (PyData.keyHash P (Str.ofString "__module__")) (Value.str (Str.ofString "__module__") 508) (Value.str (Str.ofString "rlp.exceptions") 395), DictEntry.mk (PyData.keyHash P (Str.ofString "__qualname__")) (Value.str (Str.ofString "__qualname__") 510) (Value.str (Str.ofString "ListSerializationError") 509), DictEntry.mk (PyData.keyHash P (Str.ofString "__firstlineno__")) (Value.str (Str.ofString "__firstlineno__") 512) (Value.int 103 511), DictEntry.mk (PyData.keyHash P (Str.ofString "__init__")) (Value.str (Str.ofString "__init__") 524) (Value.ref 172), DictEntry.mk (PyData.keyHash P (Str.ofString "__static_attributes__")) (Value.str (Str.ofString "__static_attributes__") 527) (Value.ref 173), DictEntry.mk (PyData.keyHash P (Str.ofString "__classcell__")) (Value.str (Str.ofString "__classcell__") 528) (Value.ref 159)] 6) #[]
noncomputable def f159 (P : Params) : Obj := Obj.mk (Value.type "cell") none (Data.cell (some (Value.ref 175))) #[]
noncomputable def f160 (P : Params) : Obj := Obj.mk (Value.type "tuple") none (Data.seq #[]) #[]
noncomputable def f161 (P : Params) : Obj := Obj.mk Value.none none (Data.fields #[Value.int 105 0, Value.int 4 0, Value.ref 171]) #[]
noncomputable def f162 (P : Params) : Obj := Obj.mk (Value.type "code") none (Data.fields #[Value.str (Str.ofString "ListSerializationError") 503, Value.str (Str.ofString "ListSerializationError") 504, Value.str (Str.ofString "/claim/cut.py") 505, Value.int 103 0, Value.int 0 0, Value.int 0 0, Value.int 0 0, Value.int 0 0, Value.ref 160, Value.bool false, Value.int 313 0, Value.ref 161, Value.none, Value.none, Value.none, Value.none, Value.int 506 0, Value.int 103 0, Value.str (Str.ofString "/claim/cut.py") 507]) #[]
noncomputable def f163 (P : Params) : Obj := Obj.mk (Value.type "frame") none Data.plain #[some (Value.ref 162), some (Value.ref 3), some (Value.ref 158), none, some (Value.str (Str.ofString "rlp.exceptions") 395), none, some (Value.ref 0)]
noncomputable def f164 (P : Params) : Obj := Obj.mk (Value.type "tuple") none (Data.seq #[Value.none, Value.none, Value.none, Value.none]) #[]
noncomputable def f165 (P : Params) : Obj := Obj.mk (Value.type "tuple") none (Data.seq #[Value.ref 159]) #[]
noncomputable def f166 (P : Params) : Obj := Obj.mk (Value.type "tuple") none (Data.seq #[Value.str (Str.ofString "__class__") 516]) #[]
noncomputable def f167 (P : Params) : Obj := Obj.mk Value.none none (Data.fields #[]) #[]
noncomputable def f168 (P : Params) : Obj := Obj.mk (Value.type "tuple") none (Data.seq #[Value.str (Str.ofString "self") 517, Value.str (Str.ofString "message") 518, Value.str (Str.ofString "obj") 519, Value.str (Str.ofString "element_exception") 520, Value.str (Str.ofString "index") 521]) #[]
noncomputable def f169 (P : Params) : Obj := Obj.mk (Value.type "tuple") none (Data.seq #[]) #[]
noncomputable def f170 (P : Params) : Obj := Obj.mk (Value.none) (none) (fdOf [18, 0] fun a b s => FuncData.mk (Str.ofString "__init__") (Str.ofString "ListSerializationError.__init__") a b s 0 ([]) (Value.none) (Value.none) (Value.none) (Value.none) (none) (Value.none) (Value.none) 0) (#[])
noncomputable def f171 (P : Params) : Obj := Obj.mk (Value.type "code") none (Data.fields #[Value.str (Str.ofString "__init__") 513, Value.str (Str.ofString "ListSerializationError.__init__") 514, Value.str (Str.ofString "/claim/cut.py") 515, Value.int 105 0, Value.int 5 0, Value.int 0 0, Value.int 0 0, Value.int 3 0, Value.ref 166, Value.bool true, Value.int 313 0, Value.ref 167, Value.none, Value.ref 168, Value.ref 169, Value.ref 170, Value.int 522 0, Value.int 105 0, Value.str (Str.ofString "/claim/cut.py") 523]) #[]
noncomputable def f172 (P : Params) : Obj := Obj.mk (Value.type "function") (none) (fdOf [18, 0] fun a b s => FuncData.mk (Str.ofString "__init__") (Str.ofString "ListSerializationError.__init__") a b s 3 ([(Str.ofString "__class__", 159)]) (Value.ref 164) (Value.none) (Value.none) (Value.str (Str.ofString "rlp.exceptions") 395) (none) (Value.ref 171) (Value.ref 165) 0) (#[])
noncomputable def f173 (P : Params) : Obj := Obj.mk (Value.type "tuple") none (Data.seq #[Value.str (Str.ofString "element_exception") 525, Value.str (Str.ofString "index") 526]) #[]
noncomputable def f174 (P : Params) : Obj := Obj.mk (Value.type "dict") none (Data.dict #[DictEntry.mk (PyData.keyHash P (Str.ofString "__module__")) (Value.str (Str.ofString "__module__") 508) (Value.str (Str.ofString "rlp.exceptions") 395), DictEntry.mk (PyData.keyHash P (Str.ofString "__firstlineno__")) (Value.str (Str.ofString "__firstlineno__") 512) (Value.int 103 511), DictEntry.mk (PyData.keyHash P (Str.ofString "__init__")) (Value.str (Str.ofString "__init__") 524) (Value.ref 172), DictEntry.mk (PyData.keyHash P (Str.ofString "__static_attributes__")) (Value.str (Str.ofString "__static_attributes__") 527) (Value.ref 173), DictEntry.mk (PyData.keyHash P (Str.ofString "__doc__")) (Value.str (Str.ofString "__doc__") 529) Value.none] 3) #[]
noncomputable def f175 (P : Params) : Obj := Obj.mk (Value.type "type") none (Data.cls (ClassData.mk (Str.ofString "ListSerializationError") [Value.ref 153] [Value.ref 175, Value.ref 153, Value.ref 89, Value.type "Exception", Value.type "BaseException", Value.type "object"] 174 (Str.ofString "ListSerializationError") true [] [] false none false)) #[some (Value.ref 156), none, some (Value.str (Str.ofString "ListSerializationError") 501), some (Value.str (Str.ofString "ListSerializationError") 509), some (Value.builtin "Exception.__new__"), some (Value.bool true)]
noncomputable def f176 (P : Params) : Obj := Obj.mk (Value.type "super") none (Data.fields #[Value.ref 175, Value.ref 175, Value.ref 175]) #[]
noncomputable def f177 (P : Params) : Obj := Obj.mk (Value.type "builtin_function_or_method") none (Data.fields #[Value.builtin "object.__init_subclass__", Value.ref 175]) #[]
noncomputable def f178 (P : Params) : Obj := Obj.mk (Value.type "tuple") none (Data.seq #[Value.ref 89]) #[]
noncomputable def f179 (P : Params) : Obj := Obj.mk (Value.type "builtin_function_or_method") none (Data.fields #[Value.builtin "type.__prepare__", Value.type "type"]) #[]
noncomputable def f180 (P : Params) : Obj := Obj.mk (Value.type "dict") none (Data.dict #[DictEntry.mk (PyData.keyHash P (Str.ofString "__module__")) (Value.str (Str.ofString "__module__") 539) (Value.str (Str.ofString "rlp.exceptions") 395), DictEntry.mk (PyData.keyHash P (Str.ofString "__qualname__")) (Value.str (Str.ofString "__qualname__") 541) (Value.str (Str.ofString "DeserializationError") 540), DictEntry.mk (PyData.keyHash P (Str.ofString "__firstlineno__")) (Value.str (Str.ofString "__firstlineno__") 543) (Value.int 113 542), DictEntry.mk (PyData.keyHash P (Str.ofString "__init__")) (Value.str (Str.ofString "__init__") 553) (Value.ref 193), DictEntry.mk (PyData.keyHash P (Str.ofString "__static_attributes__")) (Value.str (Str.ofString "__static_attributes__") 555) (Value.ref 194), DictEntry.mk (PyData.keyHash P (Str.ofString "__classcell__")) (Value.str (Str.ofString "__classcell__") 556) (Value.ref 181)] 6) #[]
noncomputable def f181 (P : Params) : Obj := Obj.mk (Value.type "cell") none (Data.cell (some (Value.ref 196))) #[]
noncomputable def f182 (P : Params) : Obj := Obj.mk (Value.type "tuple") none (Data.seq #[]) #[]
noncomputable def f183 (P : Params) : Obj := Obj.mk Value.none none (Data.fields #[Value.int 115 0, Value.int 4 0, Value.ref 192]) #[]
noncomputable def f184 (P : Params) : Obj := Obj.mk (Value.type "code") none (Data.fields #[Value.str (Str.ofString "DeserializationError") 534, Value.str (Str.ofString "DeserializationError") 535, Value.str (Str.ofString "/claim/cut.py") 536, Value.int 113 0, Value.int 0 0, Value.int 0 0, Value.int 0 0, Value.int 0 0, Value.ref 182, Value.bool false, Value.int 313 0, Value.ref 183, Value.none, Value.none, Value.none, Value.none, Value.int 537 0, Value.int 113 0, Value.str (Str.ofString "/claim/cut.py") 538]) #[]
noncomputable def f185 (P : Params) : Obj := Obj.mk (Value.type "frame") none Data.plain #[some (Value.ref 184), some (Value.ref 3), some (Value.ref 180), none, some (Value.str (Str.ofString "rlp.exceptions") 395), none, some (Value.ref 0)]
noncomputable def f186 (P : Params) : Obj := Obj.mk (Value.type "tuple") none (Data.seq #[Value.ref 181]) #[]
noncomputable def f187 (P : Params) : Obj := Obj.mk (Value.type "tuple") none (Data.seq #[Value.str (Str.ofString "__class__") 547]) #[]
noncomputable def f188 (P : Params) : Obj := Obj.mk Value.none none (Data.fields #[]) #[]
noncomputable def f189 (P : Params) : Obj := Obj.mk (Value.type "tuple") none (Data.seq #[Value.str (Str.ofString "self") 548, Value.str (Str.ofString "message") 549, Value.str (Str.ofString "serial") 550]) #[]
noncomputable def f190 (P : Params) : Obj := Obj.mk (Value.type "tuple") none (Data.seq #[]) #[]
noncomputable def f191 (P : Params) : Obj := Obj.mk (Value.none) (none) (fdOf [19, 0] fun a b s => FuncData.mk (Str.ofString "__init__") (Str.ofString "DeserializationError.__init__") a b s 0 ([]) (Value.none) (Value.none) (Value.none) (Value.none) (none) (Value.none) (Value.none) 0) (#[])
noncomputable def f192 (P : Params) : Obj := Obj.mk (Value.type "code") none (Data.fields #[Value.str (Str.ofString "__init__") 544, Value.str (Str.ofString "DeserializationError.__init__") 545, Value.str (Str.ofString "/claim/cut.py") 546, Value.int 115 0, Value.int 3 0, Value.int 0 0, Value.int 0 0, Value.int 3 0, Value.ref 187, Value.bool true, Value.int 313 0, Value.ref 188, Value.none, Value.ref 189, Value.ref 190, Value.ref 191, Value.int 551 0, Value.int 115 0, Value.str (Str.ofString "/claim/cut.py") 552]) #[]
noncomputable def f193 (P : Params) : Obj := Obj.mk (Value.type "function") (none) (fdOf [19, 0] fun a b s => FuncData.mk (Str.ofString "__init__") (Str.ofString "DeserializationError.__init__") a b s 3 ([(Str.ofString "__class__", 181)]) (Value.none) (Value.none) (Value.none) (Value.str (Str.ofString "rlp.exceptions") 395) (none) (Value.ref 192) (Value.ref 186) 0) (#[])
noncomputable def f194 (P : Params) : Obj := Obj.mk (Value.type "tuple") none (Data.seq #[Value.str (Str.ofString "serial") 554]) #[]
noncomputable def f195 (P : Params) : Obj := Obj.mk (Value.type "dict") none (Data.dict #[DictEntry.mk (PyData.keyHash P (Str.ofString "__module__")) (Value.str (Str.ofString "__module__") 539) (Value.str (Str.ofString "rlp.exceptions") 395), DictEntry.mk (PyData.keyHash P (Str.ofString "__firstlineno__")) (Value.str (Str.ofString "__firstlineno__") 543) (Value.int 113 542), DictEntry.mk (PyData.keyHash P (Str.ofString "__init__")) (Value.str (Str.ofString "__init__") 553) (Value.ref 193), DictEntry.mk (PyData.keyHash P (Str.ofString "__static_attributes__")) (Value.str (Str.ofString "__static_attributes__") 555) (Value.ref 194), DictEntry.mk (PyData.keyHash P (Str.ofString "__doc__")) (Value.str (Str.ofString "__doc__") 557) Value.none] 3) #[]
noncomputable def f196 (P : Params) : Obj := Obj.mk (Value.type "type") none (Data.cls (ClassData.mk (Str.ofString "DeserializationError") [Value.ref 89] [Value.ref 196, Value.ref 89, Value.type "Exception", Value.type "BaseException", Value.type "object"] 195 (Str.ofString "DeserializationError") true [] [Value.ref 218] false none false)) #[some (Value.ref 178), none, some (Value.str (Str.ofString "DeserializationError") 532), some (Value.str (Str.ofString "DeserializationError") 540), some (Value.builtin "Exception.__new__"), some (Value.bool true)]
noncomputable def f197 (P : Params) : Obj := Obj.mk (Value.type "super") none (Data.fields #[Value.ref 196, Value.ref 196, Value.ref 196]) #[]
noncomputable def f198 (P : Params) : Obj := Obj.mk (Value.type "builtin_function_or_method") none (Data.fields #[Value.builtin "object.__init_subclass__", Value.ref 196]) #[]
noncomputable def f199 (P : Params) : Obj := Obj.mk (Value.type "tuple") none (Data.seq #[Value.ref 196]) #[]
noncomputable def f200 (P : Params) : Obj := Obj.mk (Value.type "builtin_function_or_method") none (Data.fields #[Value.builtin "type.__prepare__", Value.type "type"]) #[]
noncomputable def f201 (P : Params) : Obj := Obj.mk (Value.type "dict") none (Data.dict #[DictEntry.mk (PyData.keyHash P (Str.ofString "__module__")) (Value.str (Str.ofString "__module__") 567) (Value.str (Str.ofString "rlp.exceptions") 395), DictEntry.mk (PyData.keyHash P (Str.ofString "__qualname__")) (Value.str (Str.ofString "__qualname__") 569) (Value.str (Str.ofString "ListDeserializationError") 568), DictEntry.mk (PyData.keyHash P (Str.ofString "__firstlineno__")) (Value.str (Str.ofString "__firstlineno__") 571) (Value.int 118 570), DictEntry.mk (PyData.keyHash P (Str.ofString "__init__")) (Value.str (Str.ofString "__init__") 583) (Value.ref 215), DictEntry.mk (PyData.keyHash P (Str.ofString "__static_attributes__")) (Value.str (Str.ofString "__static_attributes__") 586) (Value.ref 216), DictEntry.mk (PyData.keyHash P (Str.ofString "__classcell__")) (Value.str (Str.ofString "__classcell__") 587) (Value.ref 202)] 6) #[]
noncomputable def f202 (P : Params) : Obj := Obj.mk (Value.type "cell") none (Data.cell (some (Value.ref 218))) #[]
noncomputable def f203 (P : Params) : Obj := Obj.mk (Value.type "tuple") none (Data.seq #[]) #[]
noncomputable def f204 (P : Params) : Obj := Obj.mk Value.none none (Data.fields #[Value.int 120 0, Value.int 4 0, Value.ref 214]) #[]
noncomputable def f205 (P : Params) : Obj := Obj.mk (Value.type "code") none (Data.fields #[Value.str (Str.ofString "ListDeserializationError") 562, Value.str (Str.ofString "ListDeserializationError") 563, Value.str (Str.ofString "/claim/cut.py") 564, Value.int 118 0, Value.int 0 0, Value.int 0 0, Value.int 0 0, Value.int 0 0, Value.ref 203, Value.bool false, Value.int 313 0, Value.ref 204, Value.none, Value.none, Value.none, Value.none, Value.int 565 0, Value.int 118 0, Value.str (Str.ofString "/claim/cut.py") 566]) #[]
noncomputable def f206 (P : Params) : Obj := Obj.mk (Value.type "frame") none Data.plain #[some (Value.ref 205), some (Value.ref 3), some (Value.ref 201), none, some (Value.str (Str.ofString "rlp.exceptions") 395), none, some (Value.ref 0)]
noncomputable def f207 (P : Params) : Obj := Obj.mk (Value.type "tuple") none (Data.seq #[Value.none, Value.none, Value.none, Value.none]) #[]
noncomputable def f208 (P : Params) : Obj := Obj.mk (Value.type "tuple") none (Data.seq #[Value.ref 202]) #[]
noncomputable def f209 (P : Params) : Obj := Obj.mk (Value.type "tuple") none (Data.seq #[Value.str (Str.ofString "__class__") 575]) #[]
noncomputable def f210 (P : Params) : Obj := Obj.mk Value.none none (Data.fields #[]) #[]
noncomputable def f211 (P : Params) : Obj := Obj.mk (Value.type "tuple") none (Data.seq #[Value.str (Str.ofString "self") 576, Value.str (Str.ofString "message") 577, Value.str (Str.ofString "serial") 578, Value.str (Str.ofString "element_exception") 579, Value.str (Str.ofString "index") 580]) #[]
noncomputable def f212 (P : Params) : Obj := Obj.mk (Value.type "tuple") none (Data.seq #[]) #[]
noncomputable def f213 (P : Params) : Obj := Obj.mk (Value.none) (none) (fdOf [20, 0] fun a b s => FuncData.mk (Str.ofString "__init__") (Str.ofString "ListDeserializationError.__init__") a b s 0 ([]) (Value.none) (Value.none) (Value.none) (Value.none) (none) (Value.none) (Value.none) 0) (#[])
noncomputable def f214 (P : Params) : Obj := Obj.mk (Value.type "code") none (Data.fields #[Value.str (Str.ofString "__init__") 572, Value.str (Str.ofString "ListDeserializationError.__init__") 573, Value.str (Str.ofString "/claim/cut.py") 574, Value.int 120 0, Value.int 5 0, Value.int 0 0, Value.int 0 0, Value.int 3 0, Value.ref 209, Value.bool true, Value.int 313 0, Value.ref 210, Value.none, Value.ref 211, Value.ref 212, Value.ref 213, Value.int 581 0, Value.int 120 0, Value.str (Str.ofString "/claim/cut.py") 582]) #[]
noncomputable def f215 (P : Params) : Obj := Obj.mk (Value.type "function") (none) (fdOf [20, 0] fun a b s => FuncData.mk (Str.ofString "__init__") (Str.ofString "ListDeserializationError.__init__") a b s 3 ([(Str.ofString "__class__", 202)]) (Value.ref 207) (Value.none) (Value.none) (Value.str (Str.ofString "rlp.exceptions") 395) (none) (Value.ref 214) (Value.ref 208) 0) (#[])
noncomputable def f216 (P : Params) : Obj := Obj.mk (Value.type "tuple") none (Data.seq #[Value.str (Str.ofString "element_exception") 584, Value.str (Str.ofString "index") 585]) #[]
noncomputable def f217 (P : Params) : Obj := Obj.mk (Value.type "dict") none (Data.dict #[DictEntry.mk (PyData.keyHash P (Str.ofString "__module__")) (Value.str (Str.ofString "__module__") 567) (Value.str (Str.ofString "rlp.exceptions") 395), DictEntry.mk (PyData.keyHash P (Str.ofString "__firstlineno__")) (Value.str (Str.ofString "__firstlineno__") 571) (Value.int 118 570), DictEntry.mk (PyData.keyHash P (Str.ofString "__init__")) (Value.str (Str.ofString "__init__") 583) (Value.ref 215), DictEntry.mk (PyData.keyHash P (Str.ofString "__static_attributes__")) (Value.str (Str.ofString "__static_attributes__") 586) (Value.ref 216), DictEntry.mk (PyData.keyHash P (Str.ofString "__doc__")) (Value.str (Str.ofString "__doc__") 588) Value.none] 3) #[]
noncomputable def f218 (P : Params) : Obj := Obj.mk (Value.type "type") none (Data.cls (ClassData.mk (Str.ofString "ListDeserializationError") [Value.ref 196] [Value.ref 218, Value.ref 196, Value.ref 89, Value.type "Exception", Value.type "BaseException", Value.type "object"] 217 (Str.ofString "ListDeserializationError") true [] [] false none false)) #[some (Value.ref 199), none, some (Value.str (Str.ofString "ListDeserializationError") 560), some (Value.str (Str.ofString "ListDeserializationError") 568), some (Value.builtin "Exception.__new__"), some (Value.bool true)]
noncomputable def f219 (P : Params) : Obj := Obj.mk (Value.type "super") none (Data.fields #[Value.ref 218, Value.ref 218, Value.ref 218]) #[]
noncomputable def f220 (P : Params) : Obj := Obj.mk (Value.type "builtin_function_or_method") none (Data.fields #[Value.builtin "object.__init_subclass__", Value.ref 218]) #[]
noncomputable def f221 (P : Params) : Obj := Obj.mk (Value.type "range") none (Data.fields #[Value.int 0 594, Value.int 256 593, Value.int 1 595]) #[]
noncomputable def f222 (P : Params) : Obj := Obj.mk (Value.type "range_iterator") none (Data.fields #[Value.int 256 0, Value.int 0 0, Value.int 1 0]) #[]
noncomputable def f223 (P : Params) : Obj := Obj.mk (Value.type "tuple") none (Data.seq #[]) #[]
noncomputable def f224 (P : Params) : Obj := Obj.mk Value.none none (Data.fields #[]) #[]
noncomputable def f225 (P : Params) : Obj := Obj.mk (Value.type "code") none (Data.fields #[Value.str (Str.ofString "<genexpr>") 596, Value.str (Str.ofString "<genexpr>") 597, Value.str (Str.ofString "/claim/cut.py") 598, Value.int 129 0, Value.int 1 0, Value.int 0 0, Value.int 0 0, Value.int 35 0, Value.ref 223, Value.bool true, Value.int 313 0, Value.ref 224, Value.none, Value.none, Value.none, Value.none, Value.int 599 0, Value.int 129 0, Value.str (Str.ofString "/claim/cut.py") 600]) #[]
noncomputable def f226 (P : Params) : Obj := Obj.mk (Value.type "frame") none (Data.dict #[DictEntry.mk (PyData.keyHash P (Str.ofString ".0")) (Value.str (Str.ofString ".0") 601) (Value.ref 222), DictEntry.mk (PyData.keyHash P (Str.ofString "i")) (Value.str (Str.ofString "i") 605) (Value.int 255 1624)] 2) #[]
noncomputable def f227 (P : Params) : Obj := Obj.mk (Value.type "generator") none (Data.fields #[Value.int 0 0, Value.str (Str.ofString "<genexpr>") 602, Value.str (Str.ofString "<genexpr>") 603]) #[]
noncomputable def f228 (P : Params) : Obj := Obj.mk (Value.type "list") none (Data.seq #[Value.bytes #[0] 607, Value.bytes #[1] 611, Value.bytes #[2] 615, Value.bytes #[3] 619, Value.bytes #[4] 623, Value.bytes #[5] 627, Value.bytes #[6] 631, Value.bytes #[7] 635, Value.bytes #[8] 639, Value.bytes #[9] 643, Value.bytes #[10] 647, Value.bytes #[11] 651, Value.bytes #[12] 655, Value.bytes #[13] 659, Value.bytes #[14] 663, Value.bytes #[15] 667, Value.bytes #[16] 671, Value.bytes #[17] 675, Value.bytes #[18] 679, Value.bytes #[19] 683, Value.bytes #[20] 687, Value.bytes #[21] 691, Value.bytes #[22] 695, Value.bytes #[23] 699, Value.bytes #[24] 703, Value.bytes #[25] 707, Value.bytes #[26] 711, Value.bytes #[27] 715, Value.bytes #[28] 719, Value.bytes #[29] 723, Value.bytes #[30] 727, Value.bytes #[31] 731, Value.bytes #[32] 735, Value.bytes #[33] 739, Value.bytes #[34] 743, Value.bytes #[35] 747, Value.bytes #[36] 751, Value.bytes #[37] 755, Value.bytes #[38] 759, Value.bytes #[39] 763, Value.bytes #[40] 767, Value.bytes #[41] 771, Value.bytes #[42] 775, Value.bytes #[43] 779, Value.bytes #[44] 783, Value.bytes #[45] 787, Value.bytes #[46] 791, Value.bytes #[47] 795, Value.bytes #[48] 799, Value.bytes #[49] 803, Value.bytes #[50] 807, Value.bytes #[51] 811, Value.bytes #[52] 815, Value.bytes #[53] 819, Value.bytes #[54] 823, Value.bytes #[55] 827, Value.bytes #[56] 831, Value.bytes #[57] 835, Value.bytes #[58] 839, Value.bytes #[59] 843, Value.bytes #[60] 847, Value.bytes #[61] 851, Value.bytes #[62] 855, Value.bytes #[63] 859, Value.bytes #[64] 863, Value.bytes #[65] 867, Value.bytes #[66] 871, Value.bytes #[67] 875, Value.bytes #[68] 879, Value.bytes #[69] 883, Value.bytes #[70] 887, Value.bytes #[71] 891, Value.bytes #[72] 895, Value.bytes #[73] 899, Value.bytes #[74] 903, Value.bytes #[75] 907, Value.bytes #[76] 911, Value.bytes #[77] 915, Value.bytes #[78] 919, Value.bytes #[79] 923, Value.bytes #[80] 927, Value.bytes #[81] 931, Value.bytes #[82] 935, Value.bytes #[83] 939, Value.bytes #[84] 943, Value.bytes #[85] 947, Value.bytes #[86] 951, Value.bytes #[87] 955, Value.bytes #[88] 959, Value.bytes #[89] 963, Value.bytes #[90] 967, Value.bytes #[91] 971, Value.bytes #[92] 975, Value.bytes #[93] 979, Value.bytes #[94] 983, Value.bytes #[95] 987, Value.bytes #[96] 991, Value.bytes #[97] 995, Value.bytes #[98] 999, Value.bytes #[99] 1003, Value.bytes #[100] 1007, Value.bytes #[101] 1011, Value.bytes #[102] 1015, Value.bytes #[103] 1019, Value.bytes #[104] 1023, Value.bytes #[105] 1027, Value.bytes #[106] 1031, Value.bytes #[107] 1035, Value.bytes #[108] 1039, Value.bytes #[109] 1043, Value.bytes #[110] 1047, Value.bytes #[111] 1051, Value.bytes #[112] 1055, Value.bytes #[113] 1059, Value.bytes #[114] 1063, Value.bytes #[115] 1067, Value.bytes #[116] 1071, Value.bytes #[117] 1075, Value.bytes #[118] 1079, Value.bytes #[119] 1083, Value.bytes #[120] 1087, Value.bytes #[121] 1091, Value.bytes #[122] 1095, Value.bytes #[123] 1099, Value.bytes #[124] 1103, Value.bytes #[125] 1107, Value.bytes #[126] 1111, Value.bytes #[127] 1115, Value.bytes #[128] 1119, Value.bytes #[129] 1123, Value.bytes #[130] 1127, Value.bytes #[131] 1131, Value.bytes #[132] 1135, Value.bytes #[133] 1139, Value.bytes #[134] 1143, Value.bytes #[135] 1147, Value.bytes #[136] 1151, Value.bytes #[137] 1155, Value.bytes #[138] 1159, Value.bytes #[139] 1163, Value.bytes #[140] 1167, Value.bytes #[141] 1171, Value.bytes #[142] 1175, Value.bytes #[143] 1179, Value.bytes #[144] 1183, Value.bytes #[145] 1187, Value.bytes #[146] 1191, Value.bytes #[147] 1195, Value.bytes #[148] 1199, Value.bytes #[149] 1203, Value.bytes #[150] 1207, Value.bytes #[151] 1211, Value.bytes #[152] 1215, Value.bytes #[153] 1219, Value.bytes #[154] 1223, Value.bytes #[155] 1227, Value.bytes #[156] 1231, Value.bytes #[157] 1235, Value.bytes #[158] 1239, Value.bytes #[159] 1243, Value.bytes #[160] 1247, Value.bytes #[161] 1251, Value.bytes #[162] 1255, Value.bytes #[163] 1259, Value.bytes #[164] 1263, Value.bytes #[165] 1267, Value.bytes #[166] 1271, Value.bytes #[167] 1275, Value.bytes #[168] 1279, Value.bytes #[169] 1283, Value.bytes #[170] 1287, Value.bytes #[171] 1291, Value.bytes #[172] 1295, Value.bytes #[173] 1299, Value.bytes #[174] 1303, Value.bytes #[175] 1307, Value.bytes #[176] 1311, Value.bytes #[177] 1315, Value.bytes #[178] 1319, Value.bytes #[179] 1323, Value.bytes #[180] 1327, Value.bytes #[181] 1331, Value.bytes #[182] 1335, Value.bytes #[183] 1339, Value.bytes #[184] 1343, Value.bytes #[185] 1347, Value.bytes #[186] 1351, Value.bytes #[187] 1355, Value.bytes #[188] 1359, Value.bytes #[189] 1363, Value.bytes #[190] 1367, Value.bytes #[191] 1371, Value.bytes #[192] 1375, Value.bytes #[193] 1379, Value.bytes #[194] 1383, Value.bytes #[195] 1387, Value.bytes #[196] 1391, Value.bytes #[197] 1395, Value.bytes #[198] 1399, Value.bytes #[199] 1403, Value.bytes #[200] 1407, Value.bytes #[201] 1411, Value.bytes #[202] 1415, Value.bytes #[203] 1419, Value.bytes #[204] 1423, Value.bytes #[205] 1427, Value.bytes #[206] 1431, Value.bytes #[207] 1435, Value.bytes #[208] 1439, Value.bytes #[209] 1443, Value.bytes #[210] 1447, Value.bytes #[211] 1451, Value.bytes #[212] 1455, Value.bytes #[213] 1459, Value.bytes #[214] 1463, Value.bytes #[215] 1467, Value.bytes #[216] 1471, Value.bytes #[217] 1475, Value.bytes #[218] 1479, Value.bytes #[219] 1483, Value.bytes #[220] 1487, Value.bytes #[221] 1491, Value.bytes #[222] 1495, Value.bytes #[223] 1499, Value.bytes #[224] 1503, Value.bytes #[225] 1507, Value.bytes #[226] 1511, Value.bytes #[227] 1515, Value.bytes #[228] 1519, Value.bytes #[229] 1523, Value.bytes #[230] 1527, Value.bytes #[231] 1531, Value.bytes #[232] 1535, Value.bytes #[233] 1539, Value.bytes #[234] 1543, Value.bytes #[235] 1547, Value.bytes #[236] 1551, Value.bytes #[237] 1555, Value.bytes #[238] 1559, Value.bytes #[239] 1563, Value.bytes #[240] 1567, Value.bytes #[241] 1571, Value.bytes #[242] 1575, Value.bytes #[243] 1579, Value.bytes #[244] 1583, Value.bytes #[245] 1587, Value.bytes #[246] 1591, Value.bytes #[247] 1595, Value.bytes #[248] 1599, Value.bytes #[249] 1603, Value.bytes #[250] 1607, Value.bytes #[251] 1611, Value.bytes #[252] 1615, Value.bytes #[253] 1619, Value.bytes #[254] 1623, Value.bytes #[255] 1627] 258) #[]
noncomputable def f229 (P : Params) : Obj := Obj.mk (Value.type "tuple") none (Data.seq #[]) #[]
noncomputable def f230 (P : Params) : Obj := Obj.mk (Value.type "StopIteration") none (Data.fields #[Value.ref 229, Value.none, Value.none, Value.none, Value.bool false, Value.none]) #[]
noncomputable def f231 (P : Params) : Obj := Obj.mk (Value.type "tuple") none (Data.seq #[]) #[]
noncomputable def f232 (P : Params) : Obj := Obj.mk (Value.type "StopIteration") none (Data.fields #[Value.ref 231, Value.none, Value.none, Value.none, Value.bool false, Value.none]) #[]
noncomputable def f233 (P : Params) : Obj := Obj.mk (Value.type "tuple") none (Data.seq #[Value.bytes #[0] 607, Value.bytes #[1] 611, Value.bytes #[2] 615, Value.bytes #[3] 619, Value.bytes #[4] 623, Value.bytes #[5] 627, Value.bytes #[6] 631, Value.bytes #[7] 635, Value.bytes #[8] 639, Value.bytes #[9] 643, Value.bytes #[10] 647, Value.bytes #[11] 651, Value.bytes #[12] 655, Value.bytes #[13] 659, Value.bytes #[14] 663, Value.bytes #[15] 667, Value.bytes #[16] 671, Value.bytes #[17] 675, Value.bytes #[18] 679, Value.bytes #[19] 683, Value.bytes #[20] 687, Value.bytes #[21] 691, Value.bytes #[22] 695, Value.bytes #[23] 699, Value.bytes #[24] 703, Value.bytes #[25] 707, Value.bytes #[26] 711, Value.bytes #[27] 715, Value.bytes #[28] 719, Value.bytes #[29] 723, Value.bytes #[30] 727, Value.bytes #[31] 731, Value.bytes #[32] 735, Value.bytes #[33] 739, Value.bytes #[34] 743, Value.bytes #[35] 747, Value.bytes #[36] 751, Value.bytes #[37] 755, Value.bytes #[38] 759, Value.bytes #[39] 763, Value.bytes #[40] 767, Value.bytes #[41] 771, Value.bytes #[42] 775, Value.bytes #[43] 779, Value.bytes #[44] 783, Value.bytes #[45] 787, Value.bytes #[46] 791, Value.bytes #[47] 795, Value.bytes #[48] 799, Value.bytes #[49] 803, Value.bytes #[50] 807, Value.bytes #[51] 811, Value.bytes #[52] 815, Value.bytes #[53] 819, Value.bytes #[54] 823, Value.bytes #[55] 827, Value.bytes #[56] 831, Value.bytes #[57] 835, Value.bytes #[58] 839, Value.bytes #[59] 843, Value.bytes #[60] 847, Value.bytes #[61] 851, Value.bytes #[62] 855, Value.bytes #[63] 859, Value.bytes #[64] 863, Value.bytes #[65] 867, Value.bytes #[66] 871, Value.bytes #[67] 875, Value.bytes #[68] 879, Value.bytes #[69] 883, Value.bytes #[70] 887, Value.bytes #[71] 891, Value.bytes #[72] 895, Value.bytes #[73] 899, Value.bytes #[74] 903, Value.bytes #[75] 907, Value.bytes #[76] 911, Value.bytes #[77] 915, Value.bytes #[78] 919, Value.bytes #[79] 923, Value.bytes #[80] 927, Value.bytes #[81] 931, Value.bytes #[82] 935, Value.bytes #[83] 939, Value.bytes #[84] 943, Value.bytes #[85] 947, Value.bytes #[86] 951, Value.bytes #[87] 955, Value.bytes #[88] 959, Value.bytes #[89] 963, Value.bytes #[90] 967, Value.bytes #[91] 971, Value.bytes #[92] 975, Value.bytes #[93] 979, Value.bytes #[94] 983, Value.bytes #[95] 987, Value.bytes #[96] 991, Value.bytes #[97] 995, Value.bytes #[98] 999, Value.bytes #[99] 1003, Value.bytes #[100] 1007, Value.bytes #[101] 1011, Value.bytes #[102] 1015, Value.bytes #[103] 1019, Value.bytes #[104] 1023, Value.bytes #[105] 1027, Value.bytes #[106] 1031, Value.bytes #[107] 1035, Value.bytes #[108] 1039, Value.bytes #[109] 1043, Value.bytes #[110] 1047, Value.bytes #[111] 1051, Value.bytes #[112] 1055, Value.bytes #[113] 1059, Value.bytes #[114] 1063, Value.bytes #[115] 1067, Value.bytes #[116] 1071, Value.bytes #[117] 1075, Value.bytes #[118] 1079, Value.bytes #[119] 1083, Value.bytes #[120] 1087, Value.bytes #[121] 1091, Value.bytes #[122] 1095, Value.bytes #[123] 1099, Value.bytes #[124] 1103, Value.bytes #[125] 1107, Value.bytes #[126] 1111, Value.bytes #[127] 1115, Value.bytes #[128] 1119, Value.bytes #[129] 1123, Value.bytes #[130] 1127, Value.bytes #[131] 1131, Value.bytes #[132] 1135, Value.bytes #[133] 1139, Value.bytes #[134] 1143, Value.bytes #[135] 1147, Value.bytes #[136] 1151, Value.bytes #[137] 1155, Value.bytes #[138] 1159, Value.bytes #[139] 1163, Value.bytes #[140] 1167, Value.bytes #[141] 1171, Value.bytes #[142] 1175, Value.bytes #[143] 1179, Value.bytes #[144] 1183, Value.bytes #[145] 1187, Value.bytes #[146] 1191, Value.bytes #[147] 1195, Value.bytes #[148] 1199, Value.bytes #[149] 1203, Value.bytes #[150] 1207, Value.bytes #[151] 1211, Value.bytes #[152] 1215, Value.bytes #[153] 1219, Value.bytes #[154] 1223, Value.bytes #[155] 1227, Value.bytes #[156] 1231, Value.bytes #[157] 1235, Value.bytes #[158] 1239, Value.bytes #[159] 1243, Value.bytes #[160] 1247, Value.bytes #[161] 1251, Value.bytes #[162] 1255, Value.bytes #[163] 1259, Value.bytes #[164] 1263, Value.bytes #[165] 1267, Value.bytes #[166] 1271, Value.bytes #[167] 1275, Value.bytes #[168] 1279, Value.bytes #[169] 1283, Value.bytes #[170] 1287, Value.bytes #[171] 1291, Value.bytes #[172] 1295, Value.bytes #[173] 1299, Value.bytes #[174] 1303, Value.bytes #[175] 1307, Value.bytes #[176] 1311, Value.bytes #[177] 1315, Value.bytes #[178] 1319, Value.bytes #[179] 1323, Value.bytes #[180] 1327, Value.bytes #[181] 1331, Value.bytes #[182] 1335, Value.bytes #[183] 1339, Value.bytes #[184] 1343, Value.bytes #[185] 1347, Value.bytes #[186] 1351, Value.bytes #[187] 1355, Value.bytes #[188] 1359, Value.bytes #[189] 1363, Value.bytes #[190] 1367, Value.bytes #[191] 1371, Value.bytes #[192] 1375, Value.bytes #[193] 1379, Value.bytes #[194] 1383, Value.bytes #[195] 1387, Value.bytes #[196] 1391, Value.bytes #[197] 1395, Value.bytes #[198] 1399, Value.bytes #[199] 1403, Value.bytes #[200] 1407, Value.bytes #[201] 1411, Value.bytes #[202] 1415, Value.bytes #[203] 1419, Value.bytes #[204] 1423, Value.bytes #[205] 1427, Value.bytes #[206] 1431, Value.bytes #[207] 1435, Value.bytes #[208] 1439, Value.bytes #[209] 1443, Value.bytes #[210] 1447, Value.bytes #[211] 1451, Value.bytes #[212] 1455, Value.bytes #[213] 1459, Value.bytes #[214] 1463, Value.bytes #[215] 1467, Value.bytes #[216] 1471, Value.bytes #[217] 1475, Value.bytes #[218] 1479, Value.bytes #[219] 1483, Value.bytes #[220] 1487, Value.bytes #[221] 1491, Value.bytes #[222] 1495, Value.bytes #[223] 1499, Value.bytes #[224] 1503, Value.bytes #[225] 1507, Value.bytes #[226] 1511, Value.bytes #[227] 1515, Value.bytes #[228] 1519, Value.bytes #[229] 1523, Value.bytes #[230] 1527, Value.bytes #[231] 1531, Value.bytes #[232] 1535, Value.bytes #[233] 1539, Value.bytes #[234] 1543, Value.bytes #[235] 1547, Value.bytes #[236] 1551, Value.bytes #[237] 1555, Value.bytes #[238] 1559, Value.bytes #[239] 1563, Value.bytes #[240] 1567, Value.bytes #[241] 1571, Value.bytes #[242] 1575, Value.bytes #[243] 1579, Value.bytes #[244] 1583, Value.bytes #[245] 1587, Value.bytes #[246] 1591, Value.bytes #[247] 1595, Value.bytes #[248] 1599, Value.bytes #[249] 1603, Value.bytes #[250] 1607, Value.bytes #[251] 1611, Value.bytes #[252] 1615, Value.bytes #[253] 1619, Value.bytes #[254] 1623, Value.bytes #[255] 1627]) #[]
noncomputable def f234 (P : Params) : Obj := Obj.mk (Value.type "tuple") none (Data.seq #[Value.type "bytes", Value.type "bytearray"]) #[]
noncomputable def f235 (P : Params) : Obj := Obj.mk (Value.type "tuple") none (Data.seq #[Value.type "list", Value.type "tuple"]) #[]
noncomputable def f236 (P : Params) : Obj := Obj.mk (Value.type "tuple") none (Data.seq #[]) #[]
noncomputable def f237 (P : Params) : Obj := Obj.mk Value.none none (Data.fields #[]) #[]
noncomputable def f238 (P : Params) : Obj := Obj.mk (Value.type "tuple") none (Data.seq #[Value.str (Str.ofString "value") 1634]) #[]
noncomputable def f239 (P : Params) : Obj := Obj.mk (Value.type "tuple") none (Data.seq #[]) #[]
noncomputable def f240 (P : Params) : Obj := Obj.mk (Value.none) (none) (fdOf [25] fun a b s => FuncData.mk (Str.ofString "is_bytes") (Str.ofString "is_bytes") a b s 0 ([]) (Value.none) (Value.none) (Value.none) (Value.none) (none) (Value.none) (Value.none) 0) (#[])
noncomputable def f241 (P : Params) : Obj := Obj.mk (Value.type "code") none (Data.fields #[Value.str (Str.ofString "is_bytes") 1631, Value.str (Str.ofString "is_bytes") 1632, Value.str (Str.ofString "/claim/cut.py") 1633, Value.int 132 0, Value.int 1 0, Value.int 0 0, Value.int 0 0, Value.int 3 0, Value.ref 236, Value.bool true, Value.int 313 0, Value.ref 237, Value.none, Value.ref 238, Value.ref 239, Value.ref 240, Value.int 1635 0, Value.int 132 0, Value.str (Str.ofString "/claim/cut.py") 1636]) #[]
noncomputable def f242 (P : Params) : Obj := Obj.mk (Value.type "function") (none) (fdOf [25] fun a b s => FuncData.mk (Str.ofString "is_bytes") (Str.ofString "is_bytes") a b s 3 ([]) (Value.none) (Value.none) (Value.none) (Value.str (Str.ofString "rlp.utils") 591) (none) (Value.ref 241) (Value.none) 0) (#[])
noncomputable def f243 (P : Params) : Obj := Obj.mk (Value.type "tuple") none (Data.seq #[]) #[]
noncomputable def f244 (P : Params) : Obj := Obj.mk Value.none none (Data.fields #[]) #[]
noncomputable def f245 (P : Params) : Obj := Obj.mk (Value.type "tuple") none (Data.seq #[Value.str (Str.ofString "value") 1641]) #[]
noncomputable def f246 (P : Params) : Obj := Obj.mk (Value.type "tuple") none (Data.seq #[]) #[]
noncomputable def f247 (P : Params) : Obj := Obj.mk (Value.none) (none) (fdOf [26] fun a b s => FuncData.mk (Str.ofString "big_endian_to_int") (Str.ofString "big_endian_to_int") a b s 0 ([]) (Value.none) (Value.none) (Value.none) (Value.none) (none) (Value.none) (Value.none) 0) (#[])
noncomputable def f248 (P : Params) : Obj := Obj.mk (Value.type "code") none (Data.fields #[Value.str (Str.ofString "big_endian_to_int") 1638, Value.str (Str.ofString "big_endian_to_int") 1639, Value.str (Str.ofString "/claim/cut.py") 1640, Value.int 134 0, Value.int 1 0, Value.int 0 0, Value.int 0 0, Value.int 3 0, Value.ref 243, Value.bool true, Value.int 313 0, Value.ref 244, Value.none, Value.ref 245, Value.ref 246, Value.ref 247, Value.int 1642 0, Value.int 134 0, Value.str (Str.ofString "/claim/cut.py") 1643]) #[]
noncomputable def f249 (P : Params) : Obj := Obj.mk (Value.type "function") (none) (fdOf [26] fun a b s => FuncData.mk (Str.ofString "big_endian_to_int") (Str.ofString "big_endian_to_int") a b s 3 ([]) (Value.none) (Value.none) (Value.none) (Value.str (Str.ofString "rlp.utils") 591) (none) (Value.ref 248) (Value.none) 0) (#[])
noncomputable def f250 (P : Params) : Obj := Obj.mk (Value.type "tuple") none (Data.seq #[]) #[]
noncomputable def f251 (P : Params) : Obj := Obj.mk Value.none none (Data.fields #[]) #[]
noncomputable def f252 (P : Params) : Obj := Obj.mk (Value.type "tuple") none (Data.seq #[Value.str (Str.ofString "value") 1648]) #[]
noncomputable def f253 (P : Params) : Obj := Obj.mk (Value.type "tuple") none (Data.seq #[]) #[]
noncomputable def f254 (P : Params) : Obj := Obj.mk (Value.none) (none) (fdOf [27] fun a b s => FuncData.mk (Str.ofString "int_to_big_endian") (Str.ofString "int_to_big_endian") a b s 0 ([]) (Value.none) (Value.none) (Value.none) (Value.none) (none) (Value.none) (Value.none) 0) (#[])
noncomputable def f255 (P : Params) : Obj := Obj.mk (Value.type "code") none (Data.fields #[Value.str (Str.ofString "int_to_big_endian") 1645, Value.str (Str.ofString "int_to_big_endian") 1646, Value.str (Str.ofString "/claim/cut.py") 1647, Value.int 136 0, Value.int 1 0, Value.int 0 0, Value.int 0 0, Value.int 3 0, Value.ref 250, Value.bool true, Value.int 313 0, Value.ref 251, Value.none, Value.ref 252, Value.ref 253, Value.ref 254, Value.int 1649 0, Value.int 136 0, Value.str (Str.ofString "/claim/cut.py") 1650]) #[]
noncomputable def f256 (P : Params) : Obj := Obj.mk (Value.type "function") (none) (fdOf [27] fun a b s => FuncData.mk (Str.ofString "int_to_big_endian") (Str.ofString "int_to_big_endian") a b s 3 ([]) (Value.none) (Value.none) (Value.none) (Value.str (Str.ofString "rlp.utils") 591) (none) (Value.ref 255) (Value.none) 0) (#[])
noncomputable def f257 (P : Params) : Obj := Obj.mk (Value.type "tuple") none (Data.seq #[]) #[]
noncomputable def f258 (P : Params) : Obj := Obj.mk (Value.type "builtin_function_or_method") none (Data.fields #[Value.builtin "type.__prepare__", Value.type "type"]) #[]
noncomputable def f259 (P : Params) : Obj := Obj.mk (Value.type "dict") none (Data.dict #[DictEntry.mk (PyData.keyHash P (Str.ofString "__module__")) (Value.str (Str.ofString "__module__") 1661) (Value.str (Str.ofString "rlp.sedes.big_endian_int") 1652), DictEntry.mk (PyData.keyHash P (Str.ofString "__qualname__")) (Value.str (Str.ofString "__qualname__") 1663) (Value.str (Str.ofString "BigEndianInt") 1662), DictEntry.mk (PyData.keyHash P (Str.ofString "__firstlineno__")) (Value.str (Str.ofString "__firstlineno__") 1665) (Value.int 139 1664), DictEntry.mk (PyData.keyHash P (Str.ofString "__init__")) (Value.str (Str.ofString "__init__") 1673) (Value.ref 271), DictEntry.mk (PyData.keyHash P (Str.ofString "serialize")) (Value.str (Str.ofString "serialize") 1682) (Value.ref 278), DictEntry.mk (PyData.keyHash P (Str.ofString "deserialize")) (Value.str (Str.ofString "deserialize") 1690) (Value.ref 285), DictEntry.mk (PyData.keyHash P (Str.ofString "__static_attributes__")) (Value.str (Str.ofString "__static_attributes__") 1692) (Value.ref 286)] 7) #[]
noncomputable def f260 (P : Params) : Obj := Obj.mk (Value.type "tuple") none (Data.seq #[]) #[]
noncomputable def f261 (P : Params) : Obj := Obj.mk Value.none none (Data.fields #[Value.int 141 0, Value.int 4 0, Value.ref 270, Value.int 144 0, Value.int 4 0, Value.ref 277, Value.int 160 0, Value.int 4 0, Value.ref 284]) #[]
noncomputable def f262 (P : Params) : Obj := Obj.mk (Value.type "code") none (Data.fields #[Value.str (Str.ofString "BigEndianInt") 1656, Value.str (Str.ofString "BigEndianInt") 1657, Value.str (Str.ofString "/claim/cut.py") 1658, Value.int 139 0, Value.int 0 0, Value.int 0 0, Value.int 0 0, Value.int 0 0, Value.ref 260, Value.bool false, Value.int 313 0, Value.ref 261, Value.none, Value.none, Value.none, Value.none, Value.int 1659 0, Value.int 139 0, Value.str (Str.ofString "/claim/cut.py") 1660]) #[]
noncomputable def f263 (P : Params) : Obj := Obj.mk (Value.type "frame") none Data.plain #[some (Value.ref 262), some (Value.ref 3), some (Value.ref 259), none, some (Value.str (Str.ofString "rlp.sedes.big_endian_int") 1652), none, some (Value.ref 0)]
noncomputable def f264 (P : Params) : Obj := Obj.mk (Value.type "tuple") none (Data.seq #[Value.none]) #[]
noncomputable def f265 (P : Params) : Obj := Obj.mk (Value.type "tuple") none (Data.seq #[]) #[]
noncomputable def f266 (P : Params) : Obj := Obj.mk Value.none none (Data.fields #[]) #[]
noncomputable def f267 (P : Params) : Obj := Obj.mk (Value.type "tuple") none (Data.seq #[Value.str (Str.ofString "self") 1669, Value.str (Str.ofString "length") 1670]) #[]
noncomputable def f268 (P : Params) : Obj := Obj.mk (Value.type "tuple") none (Data.seq #[]) #[]
noncomputable def f269 (P : Params) : Obj := Obj.mk (Value.none) (none) (fdOf [29, 0] fun a b s => FuncData.mk (Str.ofString "__init__") (Str.ofString "BigEndianInt.__init__") a b s 0 ([]) (Value.none) (Value.none) (Value.none) (Value.none) (none) (Value.none) (Value.none) 0) (#[])
noncomputable def f270 (P : Params) : Obj := Obj.mk (Value.type "code") none (Data.fields #[Value.str (Str.ofString "__init__") 1666, Value.str (Str.ofString "BigEndianInt.__init__") 1667, Value.str (Str.ofString "/claim/cut.py") 1668, Value.int 141 0, Value.int 2 0, Value.int 0 0, Value.int 0 0, Value.int 3 0, Value.ref 265, Value.bool true, Value.int 313 0, Value.ref 266, Value.none, Value.ref 267, Value.ref 268, Value.ref 269, Value.int 1671 0, Value.int 141 0, Value.str (Str.ofString "/claim/cut.py") 1672]) #[]
noncomputable def f271 (P : Params) : Obj := Obj.mk (Value.type "function") (none) (fdOf [29, 0] fun a b s => FuncData.mk (Str.ofString "__init__") (Str.ofString "BigEndianInt.__init__") a b s 3 ([]) (Value.ref 264) (Value.none) (Value.none) (Value.str (Str.ofString "rlp.sedes.big_endian_int") 1652) (none) (Value.ref 270) (Value.none) 0) (#[])
noncomputable def f272 (P : Params) : Obj := Obj.mk (Value.type "tuple") none (Data.seq #[]) #[]
noncomputable def f273 (P : Params) : Obj := Obj.mk Value.none none (Data.fields #[]) #[]
noncomputable def f274 (P : Params) : Obj := Obj.mk (Value.type "tuple") none (Data.seq #[Value.str (Str.ofString "self") 1677, Value.str (Str.ofString "obj") 1678, Value.str (Str.ofString "s") 1679]) #[]
noncomputable def f275 (P : Params) : Obj := Obj.mk (Value.type "tuple") none (Data.seq #[]) #[]
noncomputable def f276 (P : Params) : Obj := Obj.mk (Value.none) (none) (fdOf [29, 1] fun a b s => FuncData.mk (Str.ofString "serialize") (Str.ofString "BigEndianInt.serialize") a b s 0 ([]) (Value.none) (Value.none) (Value.none) (Value.none) (none) (Value.none) (Value.none) 0) (#[])
noncomputable def f277 (P : Params) : Obj := Obj.mk (Value.type "code") none (Data.fields #[Value.str (Str.ofString "serialize") 1674, Value.str (Str.ofString "BigEndianInt.serialize") 1675, Value.str (Str.ofString "/claim/cut.py") 1676, Value.int 144 0, Value.int 2 0, Value.int 0 0, Value.int 0 0, Value.int 3 0, Value.ref 272, Value.bool true, Value.int 313 0, Value.ref 273, Value.none, Value.ref 274, Value.ref 275, Value.ref 276, Value.int 1680 0, Value.int 144 0, Value.str (Str.ofString "/claim/cut.py") 1681]) #[]
noncomputable def f278 (P : Params) : Obj := Obj.mk (Value.type "function") (none) (fdOf [29, 1] fun a b s => FuncData.mk (Str.ofString "serialize") (Str.ofString "BigEndianInt.serialize") a b s 3 ([]) (Value.none) (Value.none) (Value.none) (Value.str (Str.ofString "rlp.sedes.big_endian_int") 1652) (none) (Value.ref 277) (Value.none) 0) (#[])
noncomputable def f279 (P : Params) : Obj := Obj.mk (Value.type "tuple") none (Data.seq #[]) #[]
noncomputable def f280 (P : Params) : Obj := Obj.mk Value.none none (Data.fields #[]) #[]
noncomputable def f281 (P : Params) : Obj := Obj.mk (Value.type "tuple") none (Data.seq #[Value.str (Str.ofString "self") 1686, Value.str (Str.ofString "serial") 1687]) #[]
noncomputable def f282 (P : Params) : Obj := Obj.mk (Value.type "tuple") none (Data.seq #[]) #[]
noncomputable def f283 (P : Params) : Obj := Obj.mk (Value.none) (none) (fdOf [29, 2] fun a b s => FuncData.mk (Str.ofString "deserialize") (Str.ofString "BigEndianInt.deserialize") a b s 0 ([]) (Value.none) (Value.none) (Value.none) (Value.none) (none) (Value.none) (Value.none) 0) (#[])
noncomputable def f284 (P : Params) : Obj := Obj.mk (Value.type "code") none (Data.fields #[Value.str (Str.ofString "deserialize") 1683, Value.str (Str.ofString "BigEndianInt.deserialize") 1684, Value.str (Str.ofString "/claim/cut.py") 1685, Value.int 160 0, Value.int 2 0, Value.int 0 0, Value.int 0 0, Value.int 3 0, Value.ref 279, Value.bool true, Value.int 313 0, Value.ref 280, Value.none, Value.ref 281, Value.ref 282, Value.ref 283, Value.int 1688 0, Value.int 160 0, Value.str (Str.ofString "/claim/cut.py") 1689]) #[]
noncomputable def f285 (P : Params) : Obj := Obj.mk (Value.type "function") (none) (fdOf [29, 2] fun a b s => FuncData.mk (Str.ofString "deserialize") (Str.ofString "BigEndianInt.deserialize") a b s 3 ([]) (Value.none) (Value.none) (Value.none) (Value.str (Str.ofString "rlp.sedes.big_endian_int") 1652) (none) (Value.ref 284) (Value.none) 0) (#[])
noncomputable def f286 (P : Params) : Obj := Obj.mk (Value.type "tuple") none (Data.seq #[Value.str (Str.ofString "length") 1691]) #[]
noncomputable def f287 (P : Params) : Obj := Obj.mk (Value.type "dict") none (Data.dict #[DictEntry.mk (PyData.keyHash P (Str.ofString "__module__")) (Value.str (Str.ofString "__module__") 1661) (Value.str (Str.ofString "rlp.sedes.big_endian_int") 1652), DictEntry.mk (PyData.keyHash P (Str.ofString "__firstlineno__")) (Value.str (Str.ofString "__firstlineno__") 1665) (Value.int 139 1664), DictEntry.mk (PyData.keyHash P (Str.ofString "__init__")) (Value.str (Str.ofString "__init__") 1673) (Value.ref 271), DictEntry.mk (PyData.keyHash P (Str.ofString "serialize")) (Value.str (Str.ofString "serialize") 1682) (Value.ref 278), DictEntry.mk (PyData.keyHash P (Str.ofString "deserialize")) (Value.str (Str.ofString "deserialize") 1690) (Value.ref 285), DictEntry.mk (PyData.keyHash P (Str.ofString "__static_attributes__")) (Value.str (Str.ofString "__static_attributes__") 1692) (Value.ref 286), DictEntry.mk (PyData.keyHash P (Str.ofString "__dict__")) (Value.str (Str.ofString "__dict__") 1694) (Value.ref 289), DictEntry.mk (PyData.keyHash P (Str.ofString "__weakref__")) (Value.str (Str.ofString "__weakref__") 1696) (Value.ref 290), DictEntry.mk (PyData.keyHash P (Str.ofString "__doc__")) (Value.str (Str.ofString "__doc__") 1697) Value.none] 4) #[]
noncomputable def f288 (P : Params) : Obj := Obj.mk (Value.type "type") none (Data.cls (ClassData.mk (Str.ofString "BigEndianInt") [Value.type "object"] [Value.ref 288, Value.type "object"] 287 (Str.ofString "BigEndianInt") true [] [] false none false)) #[none, none, some (Value.str (Str.ofString "BigEndianInt") 1654), some (Value.str (Str.ofString "BigEndianInt") 1662), some (Value.builtin "object.__new__"), some (Value.bool true)]
noncomputable def f289 (P : Params) : Obj := Obj.mk (Value.type "getset_descriptor") none (Data.fields #[Value.str (Str.ofString "__dict__") 1693, Value.ref 288, Value.builtin "function.__dict__", Value.builtin "function.__dict__#set"]) #[]
noncomputable def f290 (P : Params) : Obj := Obj.mk (Value.type "getset_descriptor") none (Data.fields #[Value.str (Str.ofString "__weakref__") 1695, Value.ref 288, Value.builtin "ExceptionGroup.__weakref__", Value.none]) #[]
noncomputable def f291 (P : Params) : Obj := Obj.mk (Value.type "super") none (Data.fields #[Value.ref 288, Value.ref 288, Value.ref 288]) #[]
noncomputable def f292 (P : Params) : Obj := Obj.mk (Value.type "builtin_function_or_method") none (Data.fields #[Value.builtin "object.__init_subclass__", Value.ref 288]) #[]
noncomputable def f293 (P : Params) : Obj := Obj.mk (Value.type "dict") none (Data.dict #[DictEntry.mk (PyData.keyHash P (Str.ofString "length")) (Value.str (Str.ofString "length") 1703) Value.none] 1) #[]
noncomputable def f294 (P : Params) : Obj := Obj.mk (Value.ref 288) (some 293) Data.plain #[]
noncomputable def f295 (P : Params) : Obj := Obj.mk (Value.type "frame") none (Data.dict #[DictEntry.mk (PyData.keyHash P (Str.ofString "self")) (Value.str (Str.ofString "self") 1700) (Value.ref 294), DictEntry.mk (PyData.keyHash P (Str.ofString "length")) (Value.str (Str.ofString "length") 1701) Value.none] 2) #[]
noncomputable def f296 (P : Params) : Obj := Obj.mk (Value.type "tuple") none (Data.seq #[]) #[]
noncomputable def f297 (P : Params) : Obj := Obj.mk (Value.type "builtin_function_or_method") none (Data.fields #[Value.builtin "type.__prepare__", Value.type "type"]) #[]
noncomputable def f298 (P : Params) : Obj := Obj.mk (Value.type "dict") none (Data.dict #[DictEntry.mk (PyData.keyHash P (Str.ofString "__module__")) (Value.str (Str.ofString "__module__") 1714) (Value.str (Str.ofString "rlp.sedes.binary") 1705), DictEntry.mk (PyData.keyHash P (Str.ofString "__qualname__")) (Value.str (Str.ofString "__qualname__") 1716) (Value.str (Str.ofString "Binary") 1715), DictEntry.mk (PyData.keyHash P (Str.ofString "__firstlineno__")) (Value.str (Str.ofString "__firstlineno__") 1718) (Value.int 169 1717), DictEntry.mk (PyData.keyHash P (Str.ofString "__init__")) (Value.str (Str.ofString "__init__") 1728) (Value.ref 310), DictEntry.mk (PyData.keyHash P (Str.ofString "fixed_length")) (Value.str (Str.ofString "fixed_length") 1749) (Value.ref 320), DictEntry.mk (PyData.keyHash P (Str.ofString "is_valid_type")) (Value.str (Str.ofString "is_valid_type") 1769) (Value.ref 330), DictEntry.mk (PyData.keyHash P (Str.ofString "is_valid_length")) (Value.str (Str.ofString "is_valid_length") 1777) (Value.ref 338), DictEntry.mk (PyData.keyHash P (Str.ofString "serialize")) (Value.str (Str.ofString "serialize") 1785) (Value.ref 345), DictEntry.mk (PyData.keyHash P (Str.ofString "deserialize")) (Value.str (Str.ofString "deserialize") 1793) (Value.ref 352), DictEntry.mk (PyData.keyHash P (Str.ofString "__static_attributes__")) (Value.str (Str.ofString "__static_attributes__") 1797) (Value.ref 353)] 10) #[]
noncomputable def f299 (P : Params) : Obj := Obj.mk (Value.type "tuple") none (Data.seq #[]) #[]
noncomputable def f300 (P : Params) : Obj := Obj.mk Value.none none (Data.fields #[Value.int 171 0, Value.int 4 0, Value.ref 309, Value.int 180 0, Value.int 4 0, Value.ref 317, Value.int 184 0, Value.int 4 0, Value.ref 327, Value.int 187 0, Value.int 4 0, Value.ref 337, Value.int 190 0, Value.int 4 0, Value.ref 344, Value.int 197 0, Value.int 4 0, Value.ref 351]) #[]
noncomputable def f301 (P : Params) : Obj := Obj.mk (Value.type "code") none (Data.fields #[Value.str (Str.ofString "Binary") 1709, Value.str (Str.ofString "Binary") 1710, Value.str (Str.ofString "/claim/cut.py") 1711, Value.int 169 0, Value.int 0 0, Value.int 0 0, Value.int 0 0, Value.int 0 0, Value.ref 299, Value.bool false, Value.int 313 0, Value.ref 300, Value.none, Value.none, Value.none, Value.none, Value.int 1712 0, Value.int 169 0, Value.str (Str.ofString "/claim/cut.py") 1713]) #[]
noncomputable def f302 (P : Params) : Obj := Obj.mk (Value.type "frame") none Data.plain #[some (Value.ref 301), some (Value.ref 3), some (Value.ref 298), none, some (Value.str (Str.ofString "rlp.sedes.binary") 1705), none, some (Value.ref 0)]
noncomputable def f303 (P : Params) : Obj := Obj.mk (Value.type "tuple") none (Data.seq #[Value.none, Value.none, Value.bool false]) #[]
noncomputable def f304 (P : Params) : Obj := Obj.mk (Value.type "tuple") none (Data.seq #[]) #[]
noncomputable def f305 (P : Params) : Obj := Obj.mk Value.none none (Data.fields #[]) #[]
noncomputable def f306 (P : Params) : Obj := Obj.mk (Value.type "tuple") none (Data.seq #[Value.str (Str.ofString "self") 1722, Value.str (Str.ofString "min_length") 1723, Value.str (Str.ofString "max_length") 1724, Value.str (Str.ofString "allow_empty") 1725]) #[]
noncomputable def f307 (P : Params) : Obj := Obj.mk (Value.type "tuple") none (Data.seq #[]) #[]
noncomputable def f308 (P : Params) : Obj := Obj.mk (Value.none) (none) (fdOf [32, 0] fun a b s => FuncData.mk (Str.ofString "__init__") (Str.ofString "Binary.__init__") a b s 0 ([]) (Value.none) (Value.none) (Value.none) (Value.none) (none) (Value.none) (Value.none) 0) (#[])
noncomputable def f309 (P : Params) : Obj := Obj.mk (Value.type "code") none (Data.fields #[Value.str (Str.ofString "__init__") 1719, Value.str (Str.ofString "Binary.__init__") 1720, Value.str (Str.ofString "/claim/cut.py") 1721, Value.int 171 0, Value.int 4 0, Value.int 0 0, Value.int 0 0, Value.int 3 0, Value.ref 304, Value.bool true, Value.int 313 0, Value.ref 305, Value.none, Value.ref 306, Value.ref 307, Value.ref 308, Value.int 1726 0, Value.int 171 0, Value.str (Str.ofString "/claim/cut.py") 1727]) #[]
noncomputable def f310 (P : Params) : Obj := Obj.mk (Value.type "function") (none) (fdOf [32, 0] fun a b s => FuncData.mk (Str.ofString "__init__") (Str.ofString "Binary.__init__") a b s 3 ([]) (Value.ref 303) (Value.none) (Value.none) (Value.str (Str.ofString "rlp.sedes.binary") 1705) (none) (Value.ref 309) (Value.none) 0) (#[])
noncomputable def f311 (P : Params) : Obj := Obj.mk (Value.type "tuple") none (Data.seq #[Value.bool false]) #[]
noncomputable def f312 (P : Params) : Obj := Obj.mk (Value.type "tuple") none (Data.seq #[]) #[]
noncomputable def f313 (P : Params) : Obj := Obj.mk Value.none none (Data.fields #[]) #[]
noncomputable def f314 (P : Params) : Obj := Obj.mk (Value.type "tuple") none (Data.seq #[Value.str (Str.ofString "cls") 1732, Value.str (Str.ofString "length") 1733, Value.str (Str.ofString "allow_empty") 1734]) #[]
noncomputable def f315 (P : Params) : Obj := Obj.mk (Value.type "tuple") none (Data.seq #[]) #[]
noncomputable def f316 (P : Params) : Obj := Obj.mk (Value.none) (none) (fdOf [32, 1] fun a b s => FuncData.mk (Str.ofString "fixed_length") (Str.ofString "Binary.fixed_length") a b s 0 ([]) (Value.none) (Value.none) (Value.none) (Value.none) (none) (Value.none) (Value.none) 0) (#[])
noncomputable def f317 (P : Params) : Obj := Obj.mk (Value.type "code") none (Data.fields #[Value.str (Str.ofString "fixed_length") 1729, Value.str (Str.ofString "Binary.fixed_length") 1730, Value.str (Str.ofString "/claim/cut.py") 1731, Value.int 179 0, Value.int 3 0, Value.int 0 0, Value.int 0 0, Value.int 3 0, Value.ref 312, Value.bool true, Value.int 313 0, Value.ref 313, Value.none, Value.ref 314, Value.ref 315, Value.ref 316, Value.int 1735 0, Value.int 179 0, Value.str (Str.ofString "/claim/cut.py") 1736]) #[]
noncomputable def f318 (P : Params) : Obj := Obj.mk (Value.type "function") (none) (fdOf [32, 1] fun a b s => FuncData.mk (Str.ofString "fixed_length") (Str.ofString "Binary.fixed_length") a b s 3 ([]) (Value.ref 311) (Value.none) (Value.none) (Value.str (Str.ofString "rlp.sedes.binary") 1705) (some 321) (Value.ref 317) (Value.none) 0) (#[])
noncomputable def f319 (P : Params) : Obj := Obj.mk (Value.type "dict") none (Data.dict #[DictEntry.mk (PyData.keyHash P (Str.ofString "__module__")) (Value.str (Str.ofString "__module__") 1738) (Value.str (Str.ofString "rlp.sedes.binary") 1705), DictEntry.mk (PyData.keyHash P (Str.ofString "__name__")) (Value.str (Str.ofString "__name__") 1741) (Value.str (Str.ofString "fixed_length") 1740), DictEntry.mk (PyData.keyHash P (Str.ofString "__qualname__")) (Value.str (Str.ofString "__qualname__") 1744) (Value.str (Str.ofString "Binary.fixed_length") 1743), DictEntry.mk (PyData.keyHash P (Str.ofString "__doc__")) (Value.str (Str.ofString "__doc__") 1746) Value.none, DictEntry.mk (PyData.keyHash P (Str.ofString "__annotations__")) (Value.str (Str.ofString "__annotations__") 1748) (Value.ref 321)] 5) #[]
noncomputable def f320 (P : Params) : Obj := Obj.mk (Value.type "classmethod") (some 319) (Data.fields #[Value.ref 318, Value.bool false]) #[]
noncomputable def f321 (P : Params) : Obj := Obj.mk (Value.type "dict") none (Data.dict #[]) #[]
noncomputable def f322 (P : Params) : Obj := Obj.mk (Value.type "tuple") none (Data.seq #[]) #[]
noncomputable def f323 (P : Params) : Obj := Obj.mk Value.none none (Data.fields #[]) #[]
noncomputable def f324 (P : Params) : Obj := Obj.mk (Value.type "tuple") none (Data.seq #[Value.str (Str.ofString "cls") 1753, Value.str (Str.ofString "obj") 1754]) #[]
noncomputable def f325 (P : Params) : Obj := Obj.mk (Value.type "tuple") none (Data.seq #[]) #[]
noncomputable def f326 (P : Params) : Obj := Obj.mk (Value.none) (none) (fdOf [32, 2] fun a b s => FuncData.mk (Str.ofString "is_valid_type") (Str.ofString "Binary.is_valid_type") a b s 0 ([]) (Value.none) (Value.none) (Value.none) (Value.none) (none) (Value.none) (Value.none) 0) (#[])
noncomputable def f327 (P : Params) : Obj := Obj.mk (Value.type "code") none (Data.fields #[Value.str (Str.ofString "is_valid_type") 1750, Value.str (Str.ofString "Binary.is_valid_type") 1751, Value.str (Str.ofString "/claim/cut.py") 1752, Value.int 183 0, Value.int 2 0, Value.int 0 0, Value.int 0 0, Value.int 3 0, Value.ref 322, Value.bool true, Value.int 313 0, Value.ref 323, Value.none, Value.ref 324, Value.ref 325, Value.ref 326, Value.int 1755 0, Value.int 183 0, Value.str (Str.ofString "/claim/cut.py") 1756]) #[]
noncomputable def f328 (P : Params) : Obj := Obj.mk (Value.type "function") (none) (fdOf [32, 2] fun a b s => FuncData.mk (Str.ofString "is_valid_type") (Str.ofString "Binary.is_valid_type") a b s 3 ([]) (Value.none) (Value.none) (Value.none) (Value.str (Str.ofString "rlp.sedes.binary") 1705) (some 331) (Value.ref 327) (Value.none) 0) (#[])
noncomputable def f329 (P : Params) : Obj := Obj.mk (Value.type "dict") none (Data.dict #[DictEntry.mk (PyData.keyHash P (Str.ofString "__module__")) (Value.str (Str.ofString "__module__") 1758) (Value.str (Str.ofString "rlp.sedes.binary") 1705), DictEntry.mk (PyData.keyHash P (Str.ofString "__name__")) (Value.str (Str.ofString "__name__") 1761) (Value.str (Str.ofString "is_valid_type") 1760), DictEntry.mk (PyData.keyHash P (Str.ofString "__qualname__")) (Value.str (Str.ofString "__qualname__") 1764) (Value.str (Str.ofString "Binary.is_valid_type") 1763), DictEntry.mk (PyData.keyHash P (Str.ofString "__doc__")) (Value.str (Str.ofString "__doc__") 1766) Value.none, DictEntry.mk (PyData.keyHash P (Str.ofString "__annotations__")) (Value.str (Str.ofString "__annotations__") 1768) (Value.ref 331)] 5) #[]
noncomputable def f330 (P : Params) : Obj := Obj.mk (Value.type "classmethod") (some 329) (Data.fields #[Value.ref 328, Value.bool false]) #[]
noncomputable def f331 (P : Params) : Obj := Obj.mk (Value.type "dict") none (Data.dict #[]) #[]
noncomputable def f332 (P : Params) : Obj := Obj.mk (Value.type "tuple") none (Data.seq #[]) #[]
noncomputable def f333 (P : Params) : Obj := Obj.mk Value.none none (Data.fields #[]) #[]
noncomputable def f334 (P : Params) : Obj := Obj.mk (Value.type "tuple") none (Data.seq #[Value.str (Str.ofString "self") 1773, Value.str (Str.ofString "length") 1774]) #[]
noncomputable def f335 (P : Params) : Obj := Obj.mk (Value.type "tuple") none (Data.seq #[]) #[]
noncomputable def f336 (P : Params) : Obj := Obj.mk (Value.none) (none) (fdOf [32, 3] fun a b s => FuncData.mk (Str.ofString "is_valid_length") (Str.ofString "Binary.is_valid_length") a b s 0 ([]) (Value.none) (Value.none) (Value.none) (Value.none) (none) (Value.none) (Value.none) 0) (#[])
noncomputable def f337 (P : Params) : Obj := Obj.mk (Value.type "code") none (Data.fields #[Value.str (Str.ofString "is_valid_length") 1770, Value.str (Str.ofString "Binary.is_valid_length") 1771, Value.str (Str.ofString "/claim/cut.py") 1772, Value.int 187 0, Value.int 2 0, Value.int 0 0, Value.int 0 0, Value.int 3 0, Value.ref 332, Value.bool true, Value.int 313 0, Value.ref 333, Value.none, Value.ref 334, Value.ref 335, Value.ref 336, Value.int 1775 0, Value.int 187 0, Value.str (Str.ofString "/claim/cut.py") 1776]) #[]
noncomputable def f338 (P : Params) : Obj := Obj.mk (Value.type "function") (none) (fdOf [32, 3] fun a b s => FuncData.mk (Str.ofString "is_valid_length") (Str.ofString "Binary.is_valid_length") a b s 3 ([]) (Value.none) (Value.none) (Value.none) (Value.str (Str.ofString "rlp.sedes.binary") 1705) (none) (Value.ref 337) (Value.none) 0) (#[])
noncomputable def f339 (P : Params) : Obj := Obj.mk (Value.type "tuple") none (Data.seq #[]) #[]
noncomputable def f340 (P : Params) : Obj := Obj.mk Value.none none (Data.fields #[]) #[]
noncomputable def f341 (P : Params) : Obj := Obj.mk (Value.type "tuple") none (Data.seq #[Value.str (Str.ofString "self") 1781, Value.str (Str.ofString "obj") 1782]) #[]
noncomputable def f342 (P : Params) : Obj := Obj.mk (Value.type "tuple") none (Data.seq #[]) #[]
noncomputable def f343 (P : Params) : Obj := Obj.mk (Value.none) (none) (fdOf [32, 4] fun a b s => FuncData.mk (Str.ofString "serialize") (Str.ofString "Binary.serialize") a b s 0 ([]) (Value.none) (Value.none) (Value.none) (Value.none) (none) (Value.none) (Value.none) 0) (#[])
noncomputable def f344 (P : Params) : Obj := Obj.mk (Value.type "code") none (Data.fields #[Value.str (Str.ofString "serialize") 1778, Value.str (Str.ofString "Binary.serialize") 1779, Value.str (Str.ofString "/claim/cut.py") 1780, Value.int 190 0, Value.int 2 0, Value.int 0 0, Value.int 0 0, Value.int 3 0, Value.ref 339, Value.bool true, Value.int 313 0, Value.ref 340, Value.none, Value.ref 341, Value.ref 342, Value.ref 343, Value.int 1783 0, Value.int 190 0, Value.str (Str.ofString "/claim/cut.py") 1784]) #[]
noncomputable def f345 (P : Params) : Obj := Obj.mk (Value.type "function") (none) (fdOf [32, 4] fun a b s => FuncData.mk (Str.ofString "serialize") (Str.ofString "Binary.serialize") a b s 3 ([]) (Value.none) (Value.none) (Value.none) (Value.str (Str.ofString "rlp.sedes.binary") 1705) (none) (Value.ref 344) (Value.none) 0) (#[])
noncomputable def f346 (P : Params) : Obj := Obj.mk (Value.type "tuple") none (Data.seq #[]) #[]
noncomputable def f347 (P : Params) : Obj := Obj.mk Value.none none (Data.fields #[]) #[]
noncomputable def f348 (P : Params) : Obj := Obj.mk (Value.type "tuple") none (Data.seq #[Value.str (Str.ofString "self") 1789, Value.str (Str.ofString "serial") 1790]) #[]
noncomputable def f349 (P : Params) : Obj := Obj.mk (Value.type "tuple") none (Data.seq #[]) #[]
noncomputable def f350 (P : Params) : Obj := Obj.mk (Value.none) (none) (fdOf [32, 5] fun a b s => FuncData.mk (Str.ofString "deserialize") (Str.ofString "Binary.deserialize") a b s 0 ([]) (Value.none) (Value.none) (Value.none) (Value.none) (none) (Value.none) (Value.none) 0) (#[])
noncomputable def f351 (P : Params) : Obj := Obj.mk (Value.type "code") none (Data.fields #[Value.str (Str.ofString "deserialize") 1786, Value.str (Str.ofString "Binary.deserialize") 1787, Value.str (Str.ofString "/claim/cut.py") 1788, Value.int 197 0, Value.int 2 0, Value.int 0 0, Value.int 0 0, Value.int 3 0, Value.ref 346, Value.bool true, Value.int 313 0, Value.ref 347, Value.none, Value.ref 348, Value.ref 349, Value.ref 350, Value.int 1791 0, Value.int 197 0, Value.str (Str.ofString "/claim/cut.py") 1792]) #[]
noncomputable def f352 (P : Params) : Obj := Obj.mk (Value.type "function") (none) (fdOf [32, 5] fun a b s => FuncData.mk (Str.ofString "deserialize") (Str.ofString "Binary.deserialize") a b s 3 ([]) (Value.none) (Value.none) (Value.none) (Value.str (Str.ofString "rlp.sedes.binary") 1705) (none) (Value.ref 351) (Value.none) 0) (#[])
noncomputable def f353 (P : Params) : Obj := Obj.mk (Value.type "tuple") none (Data.seq #[Value.str (Str.ofString "allow_empty") 1794, Value.str (Str.ofString "max_length") 1795, Value.str (Str.ofString "min_length") 1796]) #[]
noncomputable def f354 (P : Params) : Obj := Obj.mk (Value.type "dict") none (Data.dict #[DictEntry.mk (PyData.keyHash P (Str.ofString "__module__")) (Value.str (Str.ofString "__module__") 1714) (Value.str (Str.ofString "rlp.sedes.binary") 1705), DictEntry.mk (PyData.keyHash P (Str.ofString "__firstlineno__")) (Value.str (Str.ofString "__firstlineno__") 1718) (Value.int 169 1717), DictEntry.mk (PyData.keyHash P (Str.ofString "__init__")) (Value.str (Str.ofString "__init__") 1728) (Value.ref 310), DictEntry.mk (PyData.keyHash P (Str.ofString "fixed_length")) (Value.str (Str.ofString "fixed_length") 1749) (Value.ref 320), DictEntry.mk (PyData.keyHash P (Str.ofString "is_valid_type")) (Value.str (Str.ofString "is_valid_type") 1769) (Value.ref 330), DictEntry.mk (PyData.keyHash P (Str.ofString "is_valid_length")) (Value.str (Str.ofString "is_valid_length") 1777) (Value.ref 338), DictEntry.mk (PyData.keyHash P (Str.ofString "serialize")) (Value.str (Str.ofString "serialize") 1785) (Value.ref 345), DictEntry.mk (PyData.keyHash P (Str.ofString "deserialize")) (Value.str (Str.ofString "deserialize") 1793) (Value.ref 352), DictEntry.mk (PyData.keyHash P (Str.ofString "__static_attributes__")) (Value.str (Str.ofString "__static_attributes__") 1797) (Value.ref 353), DictEntry.mk (PyData.keyHash P (Str.ofString "__dict__")) (Value.str (Str.ofString "__dict__") 1799) (Value.ref 356), DictEntry.mk (PyData.keyHash P (Str.ofString "__weakref__")) (Value.str (Str.ofString "__weakref__") 1801) (Value.ref 357), DictEntry.mk (PyData.keyHash P (Str.ofString "__doc__")) (Value.str (Str.ofString "__doc__") 1802) Value.none] 4) #[]
noncomputable def f355 (P : Params) : Obj := Obj.mk (Value.type "type") none (Data.cls (ClassData.mk (Str.ofString "Binary") [Value.type "object"] [Value.ref 355, Value.type "object"] 354 (Str.ofString "Binary") true [] [] false none false)) #[none, none, some (Value.str (Str.ofString "Binary") 1707), some (Value.str (Str.ofString "Binary") 1715), some (Value.builtin "object.__new__"), some (Value.bool true)]
noncomputable def f356 (P : Params) : Obj := Obj.mk (Value.type "getset_descriptor") none (Data.fields #[Value.str (Str.ofString "__dict__") 1798, Value.ref 355, Value.builtin "function.__dict__", Value.builtin "function.__dict__#set"]) #[]
noncomputable def f357 (P : Params) : Obj := Obj.mk (Value.type "getset_descriptor") none (Data.fields #[Value.str (Str.ofString "__weakref__") 1800, Value.ref 355, Value.builtin "ExceptionGroup.__weakref__", Value.none]) #[]
noncomputable def f358 (P : Params) : Obj := Obj.mk (Value.type "super") none (Data.fields #[Value.ref 355, Value.ref 355, Value.ref 355]) #[]
noncomputable def f359 (P : Params) : Obj := Obj.mk (Value.type "builtin_function_or_method") none (Data.fields #[Value.builtin "object.__init_subclass__", Value.ref 355]) #[]
noncomputable def f360 (P : Params) : Obj := Obj.mk (Value.type "dict") none (Data.dict #[DictEntry.mk (PyData.keyHash P (Str.ofString "min_length")) (Value.str (Str.ofString "min_length") 1811) (Value.int 0 1809), DictEntry.mk (PyData.keyHash P (Str.ofString "max_length")) (Value.str (Str.ofString "max_length") 1815) (Value.float 9218868437227405312 1813), DictEntry.mk (PyData.keyHash P (Str.ofString "allow_empty")) (Value.str (Str.ofString "allow_empty") 1817) (Value.bool false)] 3) #[]
noncomputable def f361 (P : Params) : Obj := Obj.mk (Value.ref 355) (some 360) Data.plain #[]
noncomputable def f362 (P : Params) : Obj := Obj.mk (Value.type "frame") none (Data.dict #[DictEntry.mk (PyData.keyHash P (Str.ofString "self")) (Value.str (Str.ofString "self") 1805) (Value.ref 361), DictEntry.mk (PyData.keyHash P (Str.ofString "min_length")) (Value.str (Str.ofString "min_length") 1806) Value.none, DictEntry.mk (PyData.keyHash P (Str.ofString "max_length")) (Value.str (Str.ofString "max_length") 1807) Value.none, DictEntry.mk (PyData.keyHash P (Str.ofString "allow_empty")) (Value.str (Str.ofString "allow_empty") 1808) (Value.bool false)] 4) #[]
noncomputable def f363 (P : Params) : Obj := Obj.mk (Value.type "tuple") none (Data.seq #[]) #[]
noncomputable def f364 (P : Params) : Obj := Obj.mk (Value.type "builtin_function_or_method") none (Data.fields #[Value.builtin "type.__prepare__", Value.type "type"]) #[]
noncomputable def f365 (P : Params) : Obj := Obj.mk (Value.type "dict") none (Data.dict #[DictEntry.mk (PyData.keyHash P (Str.ofString "__module__")) (Value.str (Str.ofString "__module__") 1828) (Value.str (Str.ofString "rlp.sedes.boolean") 1819), DictEntry.mk (PyData.keyHash P (Str.ofString "__qualname__")) (Value.str (Str.ofString "__qualname__") 1830) (Value.str (Str.ofString "Boolean") 1829), DictEntry.mk (PyData.keyHash P (Str.ofString "__firstlineno__")) (Value.str (Str.ofString "__firstlineno__") 1832) (Value.int 206 1831), DictEntry.mk (PyData.keyHash P (Str.ofString "serialize")) (Value.str (Str.ofString "serialize") 1840) (Value.ref 376), DictEntry.mk (PyData.keyHash P (Str.ofString "deserialize")) (Value.str (Str.ofString "deserialize") 1848) (Value.ref 383), DictEntry.mk (PyData.keyHash P (Str.ofString "__static_attributes__")) (Value.str (Str.ofString "__static_attributes__") 1849) (Value.ref 384)] 6) #[]
noncomputable def f366 (P : Params) : Obj := Obj.mk (Value.type "tuple") none (Data.seq #[]) #[]
noncomputable def f367 (P : Params) : Obj := Obj.mk Value.none none (Data.fields #[Value.int 208 0, Value.int 4 0, Value.ref 375, Value.int 218 0, Value.int 4 0, Value.ref 382]) #[]
noncomputable def f368 (P : Params) : Obj := Obj.mk (Value.type "code") none (Data.fields #[Value.str (Str.ofString "Boolean") 1823, Value.str (Str.ofString "Boolean") 1824, Value.str (Str.ofString "/claim/cut.py") 1825, Value.int 206 0, Value.int 0 0, Value.int 0 0, Value.int 0 0, Value.int 0 0, Value.ref 366, Value.bool false, Value.int 313 0, Value.ref 367, Value.none, Value.none, Value.none, Value.none, Value.int 1826 0, Value.int 206 0, Value.str (Str.ofString "/claim/cut.py") 1827]) #[]
noncomputable def f369 (P : Params) : Obj := Obj.mk (Value.type "frame") none Data.plain #[some (Value.ref 368), some (Value.ref 3), some (Value.ref 365), none, some (Value.str (Str.ofString "rlp.sedes.boolean") 1819), none, some (Value.ref 0)]
noncomputable def f370 (P : Params) : Obj := Obj.mk (Value.type "tuple") none (Data.seq #[]) #[]
noncomputable def f371 (P : Params) : Obj := Obj.mk Value.none none (Data.fields #[]) #[]
noncomputable def f372 (P : Params) : Obj := Obj.mk (Value.type "tuple") none (Data.seq #[Value.str (Str.ofString "self") 1836, Value.str (Str.ofString "obj") 1837]) #[]
noncomputable def f373 (P : Params) : Obj := Obj.mk (Value.type "tuple") none (Data.seq #[]) #[]
noncomputable def f374 (P : Params) : Obj := Obj.mk (Value.none) (none) (fdOf [35, 0] fun a b s => FuncData.mk (Str.ofString "serialize") (Str.ofString "Boolean.serialize") a b s 0 ([]) (Value.none) (Value.none) (Value.none) (Value.none) (none) (Value.none) (Value.none) 0) (#[])
noncomputable def f375 (P : Params) : Obj := Obj.mk (Value.type "code") none (Data.fields #[Value.str (Str.ofString "serialize") 1833, Value.str (Str.ofString "Boolean.serialize") 1834, Value.str (Str.ofString "/claim/cut.py") 1835, Value.int 208 0, Value.int 2 0, Value.int 0 0, Value.int 0 0, Value.int 3 0, Value.ref 370, Value.bool true, Value.int 313 0, Value.ref 371, Value.none, Value.ref 372, Value.ref 373, Value.ref 374, Value.int 1838 0, Value.int 208 0, Value.str (Str.ofString "/claim/cut.py") 1839]) #[]
noncomputable def f376 (P : Params) : Obj := Obj.mk (Value.type "function") (none) (fdOf [35, 0] fun a b s => FuncData.mk (Str.ofString "serialize") (Str.ofString "Boolean.serialize") a b s 3 ([]) (Value.none) (Value.none) (Value.none) (Value.str (Str.ofString "rlp.sedes.boolean") 1819) (none) (Value.ref 375) (Value.none) 0) (#[])
noncomputable def f377 (P : Params) : Obj := Obj.mk (Value.type "tuple") none (Data.seq #[]) #[]
noncomputable def f378 (P : Params) : Obj := Obj.mk Value.none none (Data.fields #[]) #[]
noncomputable def f379 (P : Params) : Obj := Obj.mk (Value.type "tuple") none (Data.seq #[Value.str (Str.ofString "self") 1844, Value.str (Str.ofString "serial") 1845]) #[]
noncomputable def f380 (P : Params) : Obj := Obj.mk (Value.type "tuple") none (Data.seq #[]) #[]
noncomputable def f381 (P : Params) : Obj := Obj.mk (Value.none) (none) (fdOf [35, 1] fun a b s => FuncData.mk (Str.ofString "deserialize") (Str.ofString "Boolean.deserialize") a b s 0 ([]) (Value.none) (Value.none) (Value.none) (Value.none) (none) (Value.none) (Value.none) 0) (#[])
noncomputable def f382 (P : Params) : Obj := Obj.mk (Value.type "code") none (Data.fields #[Value.str (Str.ofString "deserialize") 1841, Value.str (Str.ofString "Boolean.deserialize") 1842, Value.str (Str.ofString "/claim/cut.py") 1843, Value.int 218 0, Value.int 2 0, Value.int 0 0, Value.int 0 0, Value.int 3 0, Value.ref 377, Value.bool true, Value.int 313 0, Value.ref 378, Value.none, Value.ref 379, Value.ref 380, Value.ref 381, Value.int 1846 0, Value.int 218 0, Value.str (Str.ofString "/claim/cut.py") 1847]) #[]
noncomputable def f383 (P : Params) : Obj := Obj.mk (Value.type "function") (none) (fdOf [35, 1] fun a b s => FuncData.mk (Str.ofString "deserialize") (Str.ofString "Boolean.deserialize") a b s 3 ([]) (Value.none) (Value.none) (Value.none) (Value.str (Str.ofString "rlp.sedes.boolean") 1819) (none) (Value.ref 382) (Value.none) 0) (#[])
noncomputable def f384 (P : Params) : Obj := Obj.mk (Value.type "tuple") none (Data.seq #[]) #[]
noncomputable def f385 (P : Params) : Obj := Obj.mk (Value.type "dict") none (Data.dict #[DictEntry.mk (PyData.keyHash P (Str.ofString "__module__")) (Value.str (Str.ofString "__module__") 1828) (Value.str (Str.ofString "rlp.sedes.boolean") 1819), DictEntry.mk (PyData.keyHash P (Str.ofString "__firstlineno__")) (Value.str (Str.ofString "__firstlineno__") 1832) (Value.int 206 1831), DictEntry.mk (PyData.keyHash P (Str.ofString "serialize")) (Value.str (Str.ofString "serialize") 1840) (Value.ref 376), DictEntry.mk (PyData.keyHash P (Str.ofString "deserialize")) (Value.str (Str.ofString "deserialize") 1848) (Value.ref 383), DictEntry.mk (PyData.keyHash P (Str.ofString "__static_attributes__")) (Value.str (Str.ofString "__static_attributes__") 1849) (Value.ref 384), DictEntry.mk (PyData.keyHash P (Str.ofString "__dict__")) (Value.str (Str.ofString "__dict__") 1851) (Value.ref 387), DictEntry.mk (PyData.keyHash P (Str.ofString "__weakref__")) (Value.str (Str.ofString "__weakref__") 1853) (Value.ref 388), DictEntry.mk (PyData.keyHash P (Str.ofString "__doc__")) (Value.str (Str.ofString "__doc__") 1854) Value.none] 4) #[]
noncomputable def f386 (P : Params) : Obj := Obj.mk (Value.type "type") none (Data.cls (ClassData.mk (Str.ofString "Boolean") [Value.type "object"] [Value.ref 386, Value.type "object"] 385 (Str.ofString "Boolean") true [] [] false none false)) #[none, none, some (Value.str (Str.ofString "Boolean") 1821), some (Value.str (Str.ofString "Boolean") 1829), some (Value.builtin "object.__new__"), some (Value.bool true)]
noncomputable def f387 (P : Params) : Obj := Obj.mk (Value.type "getset_descriptor") none (Data.fields #[Value.str (Str.ofString "__dict__") 1850, Value.ref 386, Value.builtin "function.__dict__", Value.builtin "function.__dict__#set"]) #[]
noncomputable def f388 (P : Params) : Obj := Obj.mk (Value.type "getset_descriptor") none (Data.fields #[Value.str (Str.ofString "__weakref__") 1852, Value.ref 386, Value.builtin "ExceptionGroup.__weakref__", Value.none]) #[]
noncomputable def f389 (P : Params) : Obj := Obj.mk (Value.type "super") none (Data.fields #[Value.ref 386, Value.ref 386, Value.ref 386]) #[]
noncomputable def f390 (P : Params) : Obj := Obj.mk (Value.type "builtin_function_or_method") none (Data.fields #[Value.builtin "object.__init_subclass__", Value.ref 386]) #[]
noncomputable def f391 (P : Params) : Obj := Obj.mk (Value.type "dict") none (Data.dict #[]) #[]
noncomputable def f392 (P : Params) : Obj := Obj.mk (Value.ref 386) (some 391) Data.plain #[]
noncomputable def f393 (P : Params) : Obj := Obj.mk (Value.type "tuple") none (Data.seq #[]) #[]
noncomputable def f394 (P : Params) : Obj := Obj.mk Value.none none (Data.fields #[]) #[]
noncomputable def f395 (P : Params) : Obj := Obj.mk (Value.type "tuple") none (Data.seq #[Value.str (Str.ofString "obj") 1863]) #[]
noncomputable def f396 (P : Params) : Obj := Obj.mk (Value.type "tuple") none (Data.seq #[]) #[]
noncomputable def f397 (P : Params) : Obj := Obj.mk (Value.none) (none) (fdOf [38] fun a b s => FuncData.mk (Str.ofString "is_sedes") (Str.ofString "is_sedes") a b s 0 ([]) (Value.none) (Value.none) (Value.none) (Value.none) (none) (Value.none) (Value.none) 0) (#[])
noncomputable def f398 (P : Params) : Obj := Obj.mk (Value.type "code") none (Data.fields #[Value.str (Str.ofString "is_sedes") 1860, Value.str (Str.ofString "is_sedes") 1861, Value.str (Str.ofString "/claim/cut.py") 1862, Value.int 227 0, Value.int 1 0, Value.int 0 0, Value.int 0 0, Value.int 3 0, Value.ref 393, Value.bool true, Value.int 313 0, Value.ref 394, Value.none, Value.ref 395, Value.ref 396, Value.ref 397, Value.int 1864 0, Value.int 227 0, Value.str (Str.ofString "/claim/cut.py") 1865]) #[]
noncomputable def f399 (P : Params) : Obj := Obj.mk (Value.type "function") (none) (fdOf [38] fun a b s => FuncData.mk (Str.ofString "is_sedes") (Str.ofString "is_sedes") a b s 3 ([]) (Value.none) (Value.none) (Value.none) (Value.str (Str.ofString "rlp.sedes.lists") 1858) (none) (Value.ref 398) (Value.none) 0) (#[])
noncomputable def f400 (P : Params) : Obj := Obj.mk (Value.type "tuple") none (Data.seq #[]) #[]
noncomputable def f401 (P : Params) : Obj := Obj.mk Value.none none (Data.fields #[]) #[]
noncomputable def f402 (P : Params) : Obj := Obj.mk (Value.type "tuple") none (Data.seq #[Value.str (Str.ofString "obj") 1870]) #[]
noncomputable def f403 (P : Params) : Obj := Obj.mk (Value.type "tuple") none (Data.seq #[]) #[]
noncomputable def f404 (P : Params) : Obj := Obj.mk (Value.none) (none) (fdOf [39] fun a b s => FuncData.mk (Str.ofString "is_sequence") (Str.ofString "is_sequence") a b s 0 ([]) (Value.none) (Value.none) (Value.none) (Value.none) (none) (Value.none) (Value.none) 0) (#[])
noncomputable def f405 (P : Params) : Obj := Obj.mk (Value.type "code") none (Data.fields #[Value.str (Str.ofString "is_sequence") 1867, Value.str (Str.ofString "is_sequence") 1868, Value.str (Str.ofString "/claim/cut.py") 1869, Value.int 229 0, Value.int 1 0, Value.int 0 0, Value.int 0 0, Value.int 3 0, Value.ref 400, Value.bool true, Value.int 313 0, Value.ref 401, Value.none, Value.ref 402, Value.ref 403, Value.ref 404, Value.int 1871 0, Value.int 229 0, Value.str (Str.ofString "/claim/cut.py") 1872]) #[]
noncomputable def f406 (P : Params) : Obj := Obj.mk (Value.type "function") (none) (fdOf [39] fun a b s => FuncData.mk (Str.ofString "is_sequence") (Str.ofString "is_sequence") a b s 3 ([]) (Value.none) (Value.none) (Value.none) (Value.str (Str.ofString "rlp.sedes.lists") 1858) (none) (Value.ref 405) (Value.none) 0) (#[])
noncomputable def f407 (P : Params) : Obj := Obj.mk (Value.type "tuple") none (Data.seq #[Value.type "list"]) #[]
noncomputable def f408 (P : Params) : Obj := Obj.mk (Value.type "builtin_function_or_method") none (Data.fields #[Value.builtin "type.__prepare__", Value.type "type"]) #[]
noncomputable def f409 (P : Params) : Obj := Obj.mk (Value.type "dict") none (Data.dict #[DictEntry.mk (PyData.keyHash P (Str.ofString "__module__")) (Value.str (Str.ofString "__module__") 1881) (Value.str (Str.ofString "rlp.sedes.lists") 1858), DictEntry.mk (PyData.keyHash P (Str.ofString "__qualname__")) (Value.str (Str.ofString "__qualname__") 1883) (Value.str (Str.ofString "List") 1882), DictEntry.mk (PyData.keyHash P (Str.ofString "__firstlineno__")) (Value.str (Str.ofString "__firstlineno__") 1885) (Value.int 231 1884), DictEntry.mk (PyData.keyHash P (Str.ofString "__init__")) (Value.str (Str.ofString "__init__") 1896) (Value.ref 423), DictEntry.mk (PyData.keyHash P (Str.ofString "serialize")) (Value.str (Str.ofString "serialize") 1909) (Value.ref 430), DictEntry.mk (PyData.keyHash P (Str.ofString "deserialize")) (Value.str (Str.ofString "deserialize") 1922) (Value.ref 437), DictEntry.mk (PyData.keyHash P (Str.ofString "__static_attributes__")) (Value.str (Str.ofString "__static_attributes__") 1924) (Value.ref 438), DictEntry.mk (PyData.keyHash P (Str.ofString "__classcell__")) (Value.str (Str.ofString "__classcell__") 1925) (Value.ref 410)] 8) #[]
noncomputable def f410 (P : Params) : Obj := Obj.mk (Value.type "cell") none (Data.cell (some (Value.ref 440))) #[]
noncomputable def f411 (P : Params) : Obj := Obj.mk (Value.type "tuple") none (Data.seq #[]) #[]
noncomputable def f412 (P : Params) : Obj := Obj.mk Value.none none (Data.fields #[Value.int 233 0, Value.int 4 0, Value.ref 422, Value.int 245 0, Value.int 4 0, Value.ref 429, Value.int 258 0, Value.int 4 0, Value.ref 436]) #[]
noncomputable def f413 (P : Params) : Obj := Obj.mk (Value.type "code") none (Data.fields #[Value.str (Str.ofString "List") 1876, Value.str (Str.ofString "List") 1877, Value.str (Str.ofString "/claim/cut.py") 1878, Value.int 231 0, Value.int 0 0, Value.int 0 0, Value.int 0 0, Value.int 0 0, Value.ref 411, Value.bool false, Value.int 313 0, Value.ref 412, Value.none, Value.none, Value.none, Value.none, Value.int 1879 0, Value.int 231 0, Value.str (Str.ofString "/claim/cut.py") 1880]) #[]
noncomputable def f414 (P : Params) : Obj := Obj.mk (Value.type "frame") none Data.plain #[some (Value.ref 413), some (Value.ref 3), some (Value.ref 409), none, some (Value.str (Str.ofString "rlp.sedes.lists") 1858), none, some (Value.ref 0)]
noncomputable def f415 (P : Params) : Obj := Obj.mk (Value.type "tuple") none (Data.seq #[Value.none, Value.bool true]) #[]
noncomputable def f416 (P : Params) : Obj := Obj.mk (Value.type "tuple") none (Data.seq #[Value.ref 410]) #[]
noncomputable def f417 (P : Params) : Obj := Obj.mk (Value.type "tuple") none (Data.seq #[Value.str (Str.ofString "__class__") 1889]) #[]
noncomputable def f418 (P : Params) : Obj := Obj.mk Value.none none (Data.fields #[]) #[]
noncomputable def f419 (P : Params) : Obj := Obj.mk (Value.type "tuple") none (Data.seq #[Value.str (Str.ofString "self") 1890, Value.str (Str.ofString "elements") 1891, Value.str (Str.ofString "strict") 1892, Value.str (Str.ofString "e") 1893]) #[]
noncomputable def f420 (P : Params) : Obj := Obj.mk (Value.type "tuple") none (Data.seq #[]) #[]
noncomputable def f421 (P : Params) : Obj := Obj.mk (Value.none) (none) (fdOf [40, 0] fun a b s => FuncData.mk (Str.ofString "__init__") (Str.ofString "List.__init__") a b s 0 ([]) (Value.none) (Value.none) (Value.none) (Value.none) (none) (Value.none) (Value.none) 0) (#[])
noncomputable def f422 (P : Params) : Obj := Obj.mk (Value.type "code") none (Data.fields #[Value.str (Str.ofString "__init__") 1886, Value.str (Str.ofString "List.__init__") 1887, Value.str (Str.ofString "/claim/cut.py") 1888, Value.int 233 0, Value.int 3 0, Value.int 0 0, Value.int 0 0, Value.int 3 0, Value.ref 417, Value.bool true, Value.int 313 0, Value.ref 418, Value.none, Value.ref 419, Value.ref 420, Value.ref 421, Value.int 1894 0, Value.int 233 0, Value.str (Str.ofString "/claim/cut.py") 1895]) #[]
noncomputable def f423 (P : Params) : Obj := Obj.mk (Value.type "function") (none) (fdOf [40, 0] fun a b s => FuncData.mk (Str.ofString "__init__") (Str.ofString "List.__init__") a b s 3 ([(Str.ofString "__class__", 410)]) (Value.ref 415) (Value.none) (Value.none) (Value.str (Str.ofString "rlp.sedes.lists") 1858) (none) (Value.ref 422) (Value.ref 416) 0) (#[])
noncomputable def f424 (P : Params) : Obj := Obj.mk (Value.type "tuple") none (Data.seq #[]) #[]
noncomputable def f425 (P : Params) : Obj := Obj.mk Value.none none (Data.fields #[]) #[]
noncomputable def f426 (P : Params) : Obj := Obj.mk (Value.type "tuple") none (Data.seq #[Value.str (Str.ofString "self") 1900, Value.str (Str.ofString "obj") 1901, Value.str (Str.ofString "found") 1902, Value.str (Str.ofString "index") 1903, Value.str (Str.ofString "element") 1904, Value.str (Str.ofString "sedes") 1905, Value.str (Str.ofString "e") 1906]) #[]
noncomputable def f427 (P : Params) : Obj := Obj.mk (Value.type "tuple") none (Data.seq #[]) #[]
noncomputable def f428 (P : Params) : Obj := Obj.mk (Value.none) (none) (fdOf [40, 1] fun a b s => FuncData.mk (Str.ofString "serialize") (Str.ofString "List.serialize") a b s 0 ([]) (Value.none) (Value.none) (Value.none) (Value.none) (none) (Value.none) (Value.none) 0) (#[])
noncomputable def f429 (P : Params) : Obj := Obj.mk (Value.type "code") none (Data.fields #[Value.str (Str.ofString "serialize") 1897, Value.str (Str.ofString "List.serialize") 1898, Value.str (Str.ofString "/claim/cut.py") 1899, Value.int 245 0, Value.int 2 0, Value.int 0 0, Value.int 0 0, Value.int 3 0, Value.ref 424, Value.bool true, Value.int 313 0, Value.ref 425, Value.none, Value.ref 426, Value.ref 427, Value.ref 428, Value.int 1907 0, Value.int 245 0, Value.str (Str.ofString "/claim/cut.py") 1908]) #[]
noncomputable def f430 (P : Params) : Obj := Obj.mk (Value.type "function") (none) (fdOf [40, 1] fun a b s => FuncData.mk (Str.ofString "serialize") (Str.ofString "List.serialize") a b s 3 ([]) (Value.none) (Value.none) (Value.none) (Value.str (Str.ofString "rlp.sedes.lists") 1858) (none) (Value.ref 429) (Value.none) 0) (#[])
noncomputable def f431 (P : Params) : Obj := Obj.mk (Value.type "tuple") none (Data.seq #[]) #[]
noncomputable def f432 (P : Params) : Obj := Obj.mk Value.none none (Data.fields #[]) #[]
noncomputable def f433 (P : Params) : Obj := Obj.mk (Value.type "tuple") none (Data.seq #[Value.str (Str.ofString "self") 1913, Value.str (Str.ofString "serial") 1914, Value.str (Str.ofString "found") 1915, Value.str (Str.ofString "idx") 1916, Value.str (Str.ofString "sedes") 1917, Value.str (Str.ofString "element") 1918, Value.str (Str.ofString "e") 1919]) #[]
noncomputable def f434 (P : Params) : Obj := Obj.mk (Value.type "tuple") none (Data.seq #[]) #[]
noncomputable def f435 (P : Params) : Obj := Obj.mk (Value.none) (none) (fdOf [40, 2] fun a b s => FuncData.mk (Str.ofString "deserialize") (Str.ofString "List.deserialize") a b s 0 ([]) (Value.none) (Value.none) (Value.none) (Value.none) (none) (Value.none) (Value.none) 0) (#[])
noncomputable def f436 (P : Params) : Obj := Obj.mk (Value.type "code") none (Data.fields #[Value.str (Str.ofString "deserialize") 1910, Value.str (Str.ofString "List.deserialize") 1911, Value.str (Str.ofString "/claim/cut.py") 1912, Value.int 258 0, Value.int 2 0, Value.int 0 0, Value.int 0 0, Value.int 3 0, Value.ref 431, Value.bool true, Value.int 313 0, Value.ref 432, Value.none, Value.ref 433, Value.ref 434, Value.ref 435, Value.int 1920 0, Value.int 258 0, Value.str (Str.ofString "/claim/cut.py") 1921]) #[]
noncomputable def f437 (P : Params) : Obj := Obj.mk (Value.type "function") (none) (fdOf [40, 2] fun a b s => FuncData.mk (Str.ofString "deserialize") (Str.ofString "List.deserialize") a b s 3 ([]) (Value.none) (Value.none) (Value.none) (Value.str (Str.ofString "rlp.sedes.lists") 1858) (none) (Value.ref 436) (Value.none) 0) (#[])
noncomputable def f438 (P : Params) : Obj := Obj.mk (Value.type "tuple") none (Data.seq #[Value.str (Str.ofString "strict") 1923]) #[]
noncomputable def f439 (P : Params) : Obj := Obj.mk (Value.type "dict") none (Data.dict #[DictEntry.mk (PyData.keyHash P (Str.ofString "__module__")) (Value.str (Str.ofString "__module__") 1881) (Value.str (Str.ofString "rlp.sedes.lists") 1858), DictEntry.mk (PyData.keyHash P (Str.ofString "__firstlineno__")) (Value.str (Str.ofString "__firstlineno__") 1885) (Value.int 231 1884), DictEntry.mk (PyData.keyHash P (Str.ofString "__init__")) (Value.str (Str.ofString "__init__") 1896) (Value.ref 423), DictEntry.mk (PyData.keyHash P (Str.ofString "serialize")) (Value.str (Str.ofString "serialize") 1909) (Value.ref 430), DictEntry.mk (PyData.keyHash P (Str.ofString "deserialize")) (Value.str (Str.ofString "deserialize") 1922) (Value.ref 437), DictEntry.mk (PyData.keyHash P (Str.ofString "__static_attributes__")) (Value.str (Str.ofString "__static_attributes__") 1924) (Value.ref 438), DictEntry.mk (PyData.keyHash P (Str.ofString "__dict__")) (Value.str (Str.ofString "__dict__") 1927) (Value.ref 441), DictEntry.mk (PyData.keyHash P (Str.ofString "__weakref__")) (Value.str (Str.ofString "__weakref__") 1929) (Value.ref 442), DictEntry.mk (PyData.keyHash P (Str.ofString "__doc__")) (Value.str (Str.ofString "__doc__") 1930) Value.none] 5) #[]
noncomputable def f440 (P : Params) : Obj := Obj.mk (Value.type "type") none (Data.cls (ClassData.mk (Str.ofString "List") [Value.type "list"] [Value.ref 440, Value.type "list", Value.type "object"] 439 (Str.ofString "List") true [] [] false none false)) #[some (Value.ref 407), none, some (Value.str (Str.ofString "List") 1874), some (Value.str (Str.ofString "List") 1882), some (Value.builtin "list.__new__"), some (Value.bool true)]
noncomputable def f441 (P : Params) : Obj := Obj.mk (Value.type "getset_descriptor") none (Data.fields #[Value.str (Str.ofString "__dict__") 1926, Value.ref 440, Value.builtin "function.__dict__", Value.builtin "function.__dict__#set"]) #[]
noncomputable def f442 (P : Params) : Obj := Obj.mk (Value.type "getset_descriptor") none (Data.fields #[Value.str (Str.ofString "__weakref__") 1928, Value.ref 440, Value.builtin "ExceptionGroup.__weakref__", Value.none]) #[]
noncomputable def f443 (P : Params) : Obj := Obj.mk (Value.type "super") none (Data.fields #[Value.ref 440, Value.ref 440, Value.ref 440]) #[]
noncomputable def f444 (P : Params) : Obj := Obj.mk (Value.type "builtin_function_or_method") none (Data.fields #[Value.builtin "object.__init_subclass__", Value.ref 440]) #[]
noncomputable def f445 (P : Params) : Obj := Obj.mk (Value.type "tuple") none (Data.seq #[]) #[]
noncomputable def f446 (P : Params) : Obj := Obj.mk Value.none none (Data.fields #[]) #[]
noncomputable def f447 (P : Params) : Obj := Obj.mk (Value.type "tuple") none (Data.seq #[Value.str (Str.ofString "item") 1938, Value.str (Str.ofString "payload") 1939, Value.str (Str.ofString "prefix_offset") 1940, Value.str (Str.ofString "msg") 1941, Value.str (Str.ofString "prefix") 1942]) #[]
noncomputable def f448 (P : Params) : Obj := Obj.mk (Value.type "tuple") none (Data.seq #[]) #[]
noncomputable def f449 (P : Params) : Obj := Obj.mk (Value.none) (none) (fdOf [42] fun a b s => FuncData.mk (Str.ofString "encode_raw") (Str.ofString "encode_raw") a b s 0 ([]) (Value.none) (Value.none) (Value.none) (Value.none) (none) (Value.none) (Value.none) 0) (#[])
noncomputable def f450 (P : Params) : Obj := Obj.mk (Value.type "code") none (Data.fields #[Value.str (Str.ofString "encode_raw") 1935, Value.str (Str.ofString "encode_raw") 1936, Value.str (Str.ofString "/claim/cut.py") 1937, Value.int 271 0, Value.int 1 0, Value.int 0 0, Value.int 0 0, Value.int 3 0, Value.ref 445, Value.bool true, Value.int 313 0, Value.ref 446, Value.none, Value.ref 447, Value.ref 448, Value.ref 449, Value.int 1943 0, Value.int 271 0, Value.str (Str.ofString "/claim/cut.py") 1944]) #[]
noncomputable def f451 (P : Params) : Obj := Obj.mk (Value.type "function") (none) (fdOf [42] fun a b s => FuncData.mk (Str.ofString "encode_raw") (Str.ofString "encode_raw") a b s 3 ([]) (Value.none) (Value.none) (Value.none) (Value.str (Str.ofString "rlp.codec") 1933) (none) (Value.ref 450) (Value.none) 0) (#[])
noncomputable def f452 (P : Params) : Obj := Obj.mk (Value.type "tuple") none (Data.seq #[]) #[]
noncomputable def f453 (P : Params) : Obj := Obj.mk Value.none none (Data.fields #[]) #[]
noncomputable def f454 (P : Params) : Obj := Obj.mk (Value.type "tuple") none (Data.seq #[Value.str (Str.ofString "item") 1949, Value.str (Str.ofString "strict") 1950, Value.str (Str.ofString "_") 1951, Value.str (Str.ofString "result") 1952, Value.str (Str.ofString "per_item_rlp") 1953, Value.str (Str.ofString "end") 1954, Value.str (Str.ofString "msg") 1955]) #[]
noncomputable def f455 (P : Params) : Obj := Obj.mk (Value.type "tuple") none (Data.seq #[]) #[]
noncomputable def f456 (P : Params) : Obj := Obj.mk (Value.none) (none) (fdOf [43] fun a b s => FuncData.mk (Str.ofString "decode_raw") (Str.ofString "decode_raw") a b s 0 ([]) (Value.none) (Value.none) (Value.none) (Value.none) (none) (Value.none) (Value.none) 0) (#[])
noncomputable def f457 (P : Params) : Obj := Obj.mk (Value.type "code") none (Data.fields #[Value.str (Str.ofString "decode_raw") 1946, Value.str (Str.ofString "decode_raw") 1947, Value.str (Str.ofString "/claim/cut.py") 1948, Value.int 288 0, Value.int 3 0, Value.int 0 0, Value.int 0 0, Value.int 3 0, Value.ref 452, Value.bool true, Value.int 313 0, Value.ref 453, Value.none, Value.ref 454, Value.ref 455, Value.ref 456, Value.int 1956 0, Value.int 288 0, Value.str (Str.ofString "/claim/cut.py") 1957]) #[]
noncomputable def f458 (P : Params) : Obj := Obj.mk (Value.type "function") (none) (fdOf [43] fun a b s => FuncData.mk (Str.ofString "decode_raw") (Str.ofString "decode_raw") a b s 3 ([]) (Value.none) (Value.none) (Value.none) (Value.str (Str.ofString "rlp.codec") 1933) (none) (Value.ref 457) (Value.none) 0) (#[])
noncomputable def f459 (P : Params) : Obj := Obj.mk (Value.type "tuple") none (Data.seq #[Value.none, Value.bool true, Value.bool true]) #[]
noncomputable def f460 (P : Params) : Obj := Obj.mk (Value.type "tuple") none (Data.seq #[]) #[]
noncomputable def f461 (P : Params) : Obj := Obj.mk Value.none none (Data.fields #[]) #[]
noncomputable def f462 (P : Params) : Obj := Obj.mk (Value.type "tuple") none (Data.seq #[Value.str (Str.ofString "obj") 1962, Value.str (Str.ofString "sedes") 1963, Value.str (Str.ofString "infer_serializer") 1964, Value.str (Str.ofString "cache") 1965, Value.str (Str.ofString "item") 1966, Value.str (Str.ofString "result") 1967]) #[]
noncomputable def f463 (P : Params) : Obj := Obj.mk (Value.type "tuple") none (Data.seq #[]) #[]
noncomputable def f464 (P : Params) : Obj := Obj.mk (Value.none) (none) (fdOf [44] fun a b s => FuncData.mk (Str.ofString "encode") (Str.ofString "encode") a b s 0 ([]) (Value.none) (Value.none) (Value.none) (Value.none) (none) (Value.none) (Value.none) 0) (#[])
noncomputable def f465 (P : Params) : Obj := Obj.mk (Value.type "code") none (Data.fields #[Value.str (Str.ofString "encode") 1959, Value.str (Str.ofString "encode") 1960, Value.str (Str.ofString "/claim/cut.py") 1961, Value.int 297 0, Value.int 4 0, Value.int 0 0, Value.int 0 0, Value.int 3 0, Value.ref 460, Value.bool true, Value.int 313 0, Value.ref 461, Value.none, Value.ref 462, Value.ref 463, Value.ref 464, Value.int 1968 0, Value.int 297 0, Value.str (Str.ofString "/claim/cut.py") 1969]) #[]
noncomputable def f466 (P : Params) : Obj := Obj.mk (Value.type "function") (none) (fdOf [44] fun a b s => FuncData.mk (Str.ofString "encode") (Str.ofString "encode") a b s 3 ([]) (Value.ref 459) (Value.none) (Value.none) (Value.str (Str.ofString "rlp.codec") 1933) (none) (Value.ref 465) (Value.none) 0) (#[])
noncomputable def f467 (P : Params) : Obj := Obj.mk (Value.type "tuple") none (Data.seq #[]) #[]
noncomputable def f468 (P : Params) : Obj := Obj.mk Value.none none (Data.fields #[]) #[]
noncomputable def f469 (P : Params) : Obj := Obj.mk (Value.type "tuple") none (Data.seq #[Value.str (Str.ofString "length") 1979, Value.str (Str.ofString "offset") 1980, Value.str (Str.ofString "length_string") 1981]) #[]
noncomputable def f470 (P : Params) : Obj := Obj.mk (Value.type "tuple") none (Data.seq #[]) #[]
noncomputable def f471 (P : Params) : Obj := Obj.mk (Value.none) (none) (fdOf [47] fun a b s => FuncData.mk (Str.ofString "length_prefix") (Str.ofString "length_prefix") a b s 0 ([]) (Value.none) (Value.none) (Value.none) (Value.none) (none) (Value.none) (Value.none) 0) (#[])
noncomputable def f472 (P : Params) : Obj := Obj.mk (Value.type "code") none (Data.fields #[Value.str (Str.ofString "length_prefix") 1976, Value.str (Str.ofString "length_prefix") 1977, Value.str (Str.ofString "/claim/cut.py") 1978, Value.int 308 0, Value.int 2 0, Value.int 0 0, Value.int 0 0, Value.int 3 0, Value.ref 467, Value.bool true, Value.int 313 0, Value.ref 468, Value.none, Value.ref 469, Value.ref 470, Value.ref 471, Value.int 1982 0, Value.int 308 0, Value.str (Str.ofString "/claim/cut.py") 1983]) #[]
noncomputable def f473 (P : Params) : Obj := Obj.mk (Value.type "function") (none) (fdOf [47] fun a b s => FuncData.mk (Str.ofString "length_prefix") (Str.ofString "length_prefix") a b s 3 ([]) (Value.none) (Value.none) (Value.none) (Value.str (Str.ofString "rlp.codec") 1933) (none) (Value.ref 472) (Value.none) 0) (#[])
noncomputable def f474 (P : Params) : Obj := Obj.mk (Value.type "tuple") none (Data.seq #[]) #[]
noncomputable def f475 (P : Params) : Obj := Obj.mk Value.none none (Data.fields #[]) #[]
noncomputable def f476 (P : Params) : Obj := Obj.mk (Value.type "tuple") none (Data.seq #[Value.str (Str.ofString "rlp") 1992, Value.str (Str.ofString "start") 1993, Value.str (Str.ofString "b0") 1994, Value.str (Str.ofString "ll") 1995, Value.str (Str.ofString "len_prefix") 1996, Value.str (Str.ofString "l") 1997]) #[]
noncomputable def f477 (P : Params) : Obj := Obj.mk (Value.type "tuple") none (Data.seq #[]) #[]
noncomputable def f478 (P : Params) : Obj := Obj.mk (Value.none) (none) (fdOf [49] fun a b s => FuncData.mk (Str.ofString "consume_length_prefix") (Str.ofString "consume_length_prefix") a b s 0 ([]) (Value.none) (Value.none) (Value.none) (Value.none) (none) (Value.none) (Value.none) 0) (#[])
noncomputable def f479 (P : Params) : Obj := Obj.mk (Value.type "code") none (Data.fields #[Value.str (Str.ofString "consume_length_prefix") 1989, Value.str (Str.ofString "consume_length_prefix") 1990, Value.str (Str.ofString "/claim/cut.py") 1991, Value.int 317 0, Value.int 2 0, Value.int 0 0, Value.int 0 0, Value.int 3 0, Value.ref 474, Value.bool true, Value.int 313 0, Value.ref 475, Value.none, Value.ref 476, Value.ref 477, Value.ref 478, Value.int 1998 0, Value.int 317 0, Value.str (Str.ofString "/claim/cut.py") 1999]) #[]
noncomputable def f480 (P : Params) : Obj := Obj.mk (Value.type "function") (none) (fdOf [49] fun a b s => FuncData.mk (Str.ofString "consume_length_prefix") (Str.ofString "consume_length_prefix") a b s 3 ([]) (Value.none) (Value.none) (Value.none) (Value.str (Str.ofString "rlp.codec") 1933) (none) (Value.ref 479) (Value.none) 0) (#[])
noncomputable def f481 (P : Params) : Obj := Obj.mk (Value.type "tuple") none (Data.seq #[]) #[]
noncomputable def f482 (P : Params) : Obj := Obj.mk Value.none none (Data.fields #[]) #[]
noncomputable def f483 (P : Params) : Obj := Obj.mk (Value.type "tuple") none (Data.seq #[Value.str (Str.ofString "rlp") 2004, Value.str (Str.ofString "prefix") 2005, Value.str (Str.ofString "start") 2006, Value.str (Str.ofString "type_") 2007, Value.str (Str.ofString "length") 2008, Value.str (Str.ofString "item") 2009, Value.str (Str.ofString "items") 2010, Value.str (Str.ofString "per_item_rlp") 2011, Value.str (Str.ofString "list_rlp") 2012, Value.str (Str.ofString "next_item_start") 2013, Value.str (Str.ofString "end") 2014, Value.str (Str.ofString "p") 2015, Value.str (Str.ofString "t") 2016, Value.str (Str.ofString "l") 2017, Value.str (Str.ofString "s") 2018, Value.str (Str.ofString "item_rlp") 2019]) #[]
noncomputable def f484 (P : Params) : Obj := Obj.mk (Value.type "tuple") none (Data.seq #[]) #[]
noncomputable def f485 (P : Params) : Obj := Obj.mk (Value.none) (none) (fdOf [50] fun a b s => FuncData.mk (Str.ofString "consume_payload") (Str.ofString "consume_payload") a b s 0 ([]) (Value.none) (Value.none) (Value.none) (Value.none) (none) (Value.none) (Value.none) 0) (#[])
noncomputable def f486 (P : Params) : Obj := Obj.mk (Value.type "code") none (Data.fields #[Value.str (Str.ofString "consume_payload") 2001, Value.str (Str.ofString "consume_payload") 2002, Value.str (Str.ofString "/claim/cut.py") 2003, Value.int 345 0, Value.int 5 0, Value.int 0 0, Value.int 0 0, Value.int 3 0, Value.ref 481, Value.bool true, Value.int 313 0, Value.ref 482, Value.none, Value.ref 483, Value.ref 484, Value.ref 485, Value.int 2020 0, Value.int 345 0, Value.str (Str.ofString "/claim/cut.py") 2021]) #[]
noncomputable def f487 (P : Params) : Obj := Obj.mk (Value.type "function") (none) (fdOf [50] fun a b s => FuncData.mk (Str.ofString "consume_payload") (Str.ofString "consume_payload") a b s 3 ([]) (Value.none) (Value.none) (Value.none) (Value.str (Str.ofString "rlp.codec") 1933) (none) (Value.ref 486) (Value.none) 0) (#[])
noncomputable def f488 (P : Params) : Obj := Obj.mk (Value.type "tuple") none (Data.seq #[]) #[]
noncomputable def f489 (P : Params) : Obj := Obj.mk Value.none none (Data.fields #[]) #[]
noncomputable def f490 (P : Params) : Obj := Obj.mk (Value.type "tuple") none (Data.seq #[Value.str (Str.ofString "rlp") 2026, Value.str (Str.ofString "start") 2027, Value.str (Str.ofString "p") 2028, Value.str (Str.ofString "t") 2029, Value.str (Str.ofString "l") 2030, Value.str (Str.ofString "s") 2031]) #[]
noncomputable def f491 (P : Params) : Obj := Obj.mk (Value.type "tuple") none (Data.seq #[]) #[]
noncomputable def f492 (P : Params) : Obj := Obj.mk (Value.none) (none) (fdOf [51] fun a b s => FuncData.mk (Str.ofString "consume_item") (Str.ofString "consume_item") a b s 0 ([]) (Value.none) (Value.none) (Value.none) (Value.none) (none) (Value.none) (Value.none) 0) (#[])
noncomputable def f493 (P : Params) : Obj := Obj.mk (Value.type "code") none (Data.fields #[Value.str (Str.ofString "consume_item") 2023, Value.str (Str.ofString "consume_item") 2024, Value.str (Str.ofString "/claim/cut.py") 2025, Value.int 367 0, Value.int 2 0, Value.int 0 0, Value.int 0 0, Value.int 3 0, Value.ref 488, Value.bool true, Value.int 313 0, Value.ref 489, Value.none, Value.ref 490, Value.ref 491, Value.ref 492, Value.int 2032 0, Value.int 367 0, Value.str (Str.ofString "/claim/cut.py") 2033]) #[]
noncomputable def f494 (P : Params) : Obj := Obj.mk (Value.type "function") (none) (fdOf [51] fun a b s => FuncData.mk (Str.ofString "consume_item") (Str.ofString "consume_item") a b s 3 ([]) (Value.none) (Value.none) (Value.none) (Value.str (Str.ofString "rlp.codec") 1933) (none) (Value.ref 493) (Value.none) 0) (#[])
noncomputable def f495 (P : Params) : Obj := Obj.mk (Value.type "tuple") none (Data.seq #[Value.none, Value.bool true, Value.bool false]) #[]
noncomputable def f496 (P : Params) : Obj := Obj.mk (Value.type "tuple") none (Data.seq #[]) #[]
noncomputable def f497 (P : Params) : Obj := Obj.mk Value.none none (Data.fields #[]) #[]
noncomputable def f498 (P : Params) : Obj := Obj.mk (Value.type "tuple") none (Data.seq #[Value.str (Str.ofString "rlp") 2038, Value.str (Str.ofString "sedes") 2039, Value.str (Str.ofString "strict") 2040, Value.str (Str.ofString "recursive_cache") 2041, Value.str (Str.ofString "kwargs") 2042, Value.str (Str.ofString "item") 2043, Value.str (Str.ofString "per_item_rlp") 2044, Value.str (Str.ofString "obj") 2045]) #[]
noncomputable def f499 (P : Params) : Obj := Obj.mk (Value.type "tuple") none (Data.seq #[]) #[]
noncomputable def f500 (P : Params) : Obj := Obj.mk (Value.none) (none) (fdOf [52] fun a b s => FuncData.mk (Str.ofString "decode") (Str.ofString "decode") a b s 0 ([]) (Value.none) (Value.none) (Value.none) (Value.none) (none) (Value.none) (Value.none) 0) (#[])
noncomputable def f501 (P : Params) : Obj := Obj.mk (Value.type "code") none (Data.fields #[Value.str (Str.ofString "decode") 2035, Value.str (Str.ofString "decode") 2036, Value.str (Str.ofString "/claim/cut.py") 2037, Value.int 370 0, Value.int 4 0, Value.int 0 0, Value.int 0 0, Value.int 11 0, Value.ref 496, Value.bool true, Value.int 313 0, Value.ref 497, Value.none, Value.ref 498, Value.ref 499, Value.ref 500, Value.int 2046 0, Value.int 370 0, Value.str (Str.ofString "/claim/cut.py") 2047]) #[]
noncomputable def f502 (P : Params) : Obj := Obj.mk (Value.type "function") (none) (fdOf [52] fun a b s => FuncData.mk (Str.ofString "decode") (Str.ofString "decode") a b s 3 ([]) (Value.ref 495) (Value.none) (Value.none) (Value.str (Str.ofString "rlp.codec") 1933) (none) (Value.ref 501) (Value.none) 0) (#[])
noncomputable def f503 (P : Params) : Obj := Obj.mk (Value.type "tuple") none (Data.seq #[]) #[]
noncomputable def f504 (P : Params) : Obj := Obj.mk Value.none none (Data.fields #[]) #[]
noncomputable def f505 (P : Params) : Obj := Obj.mk (Value.type "tuple") none (Data.seq #[Value.str (Str.ofString "obj") 2053, Value.str (Str.ofString "msg") 2054]) #[]
noncomputable def f506 (P : Params) : Obj := Obj.mk (Value.type "tuple") none (Data.seq #[]) #[]
noncomputable def f507 (P : Params) : Obj := Obj.mk (Value.none) (none) (fdOf [54] fun a b s => FuncData.mk (Str.ofString "infer_sedes") (Str.ofString "infer_sedes") a b s 0 ([]) (Value.none) (Value.none) (Value.none) (Value.none) (none) (Value.none) (Value.none) 0) (#[])
noncomputable def f508 (P : Params) : Obj := Obj.mk (Value.type "code") none (Data.fields #[Value.str (Str.ofString "infer_sedes") 2050, Value.str (Str.ofString "infer_sedes") 2051, Value.str (Str.ofString "/claim/cut.py") 2052, Value.int 380 0, Value.int 1 0, Value.int 0 0, Value.int 0 0, Value.int 3 0, Value.ref 503, Value.bool true, Value.int 313 0, Value.ref 504, Value.none, Value.ref 505, Value.ref 506, Value.ref 507, Value.int 2055 0, Value.int 380 0, Value.str (Str.ofString "/claim/cut.py") 2056]) #[]
noncomputable def f509 (P : Params) : Obj := Obj.mk (Value.type "function") (none) (fdOf [54] fun a b s => FuncData.mk (Str.ofString "infer_sedes") (Str.ofString "infer_sedes") a b s 3 ([]) (Value.none) (Value.none) (Value.none) (Value.str (Str.ofString "rlp.codec") 1933) (none) (Value.ref 508) (Value.none) 0) (#[])
noncomputable def f510 (P : Params) : Obj := Obj.mk (Value.type "tuple") none (Data.seq #[]) #[]
noncomputable def f511 (P : Params) : Obj := Obj.mk Value.none none (Data.fields #[]) #[]
noncomputable def f512 (P : Params) : Obj := Obj.mk (Value.none) (none) (fdOf [56] fun a b s => FuncData.mk (Str.ofString "_law_numbers") (Str.ofString "_law_numbers") a b s 0 ([]) (Value.none) (Value.none) (Value.none) (Value.none) (none) (Value.none) (Value.none) 0) (#[])
noncomputable def f513 (P : Params) : Obj := Obj.mk (Value.type "code") none (Data.fields #[Value.str (Str.ofString "_law_numbers") 2060, Value.str (Str.ofString "_law_numbers") 2061, Value.str (Str.ofString "/claim/cut.py") 2062, Value.int 394 0, Value.int 2 0, Value.int 0 0, Value.int 0 0, Value.int 3 0, Value.ref 510, Value.bool true, Value.int 313 0, Value.ref 511, Value.none, Value.none, Value.none, Value.ref 512, Value.int 2063 0, Value.int 394 0, Value.str (Str.ofString "/claim/cut.py") 2064]) #[]
noncomputable def f514 (P : Params) : Obj := Obj.mk (Value.type "function") (none) (fdOf [56] fun a b s => FuncData.mk (Str.ofString "_law_numbers") (Str.ofString "_law_numbers") a b s 3 ([]) (Value.none) (Value.none) (Value.none) (Value.str (Str.ofString "law_vn0015_01") 2058) (none) (Value.ref 513) (Value.none) 0) (#[])
noncomputable def f515 (P : Params) : Obj := Obj.mk (Value.type "tuple") none (Data.seq #[]) #[]
noncomputable def f516 (P : Params) : Obj := Obj.mk Value.none none (Data.fields #[]) #[]
noncomputable def f517 (P : Params) : Obj := Obj.mk (Value.type "tuple") none (Data.seq #[Value.str (Str.ofString "figures") 2069, Value.str (Str.ofString "base") 2070, Value.str (Str.ofString "value") 2071, Value.str (Str.ofString "one") 2072]) #[]
noncomputable def f518 (P : Params) : Obj := Obj.mk (Value.type "tuple") none (Data.seq #[]) #[]
noncomputable def f519 (P : Params) : Obj := Obj.mk (Value.none) (none) (fdOf [57] fun a b s => FuncData.mk (Str.ofString "_law_value") (Str.ofString "_law_value") a b s 0 ([]) (Value.none) (Value.none) (Value.none) (Value.none) (none) (Value.none) (Value.none) 0) (#[])
noncomputable def f520 (P : Params) : Obj := Obj.mk (Value.type "code") none (Data.fields #[Value.str (Str.ofString "_law_value") 2066, Value.str (Str.ofString "_law_value") 2067, Value.str (Str.ofString "/claim/cut.py") 2068, Value.int 396 0, Value.int 2 0, Value.int 0 0, Value.int 0 0, Value.int 3 0, Value.ref 515, Value.bool true, Value.int 313 0, Value.ref 516, Value.none, Value.ref 517, Value.ref 518, Value.ref 519, Value.int 2073 0, Value.int 396 0, Value.str (Str.ofString "/claim/cut.py") 2074]) #[]
noncomputable def f521 (P : Params) : Obj := Obj.mk (Value.type "function") (none) (fdOf [57] fun a b s => FuncData.mk (Str.ofString "_law_value") (Str.ofString "_law_value") a b s 3 ([]) (Value.none) (Value.none) (Value.none) (Value.str (Str.ofString "law_vn0015_01") 2058) (none) (Value.ref 520) (Value.none) 0) (#[])
noncomputable def f522 (P : Params) : Obj := Obj.mk (Value.type "tuple") none (Data.seq #[]) #[]
noncomputable def f523 (P : Params) : Obj := Obj.mk Value.none none (Data.fields #[]) #[]
noncomputable def f524 (P : Params) : Obj := Obj.mk (Value.none) (none) (fdOf [58] fun a b s => FuncData.mk (Str.ofString "law") (Str.ofString "law") a b s 0 ([]) (Value.none) (Value.none) (Value.none) (Value.none) (none) (Value.none) (Value.none) 0) (#[])
noncomputable def f525 (P : Params) : Obj := Obj.mk (Value.type "code") none (Data.fields #[Value.str (Str.ofString "law") 2076, Value.str (Str.ofString "law") 2077, Value.str (Str.ofString "/claim/cut.py") 2078, Value.int 401 0, Value.int 1 0, Value.int 0 0, Value.int 0 0, Value.int 3 0, Value.ref 522, Value.bool true, Value.int 313 0, Value.ref 523, Value.none, Value.none, Value.none, Value.ref 524, Value.int 2079 0, Value.int 401 0, Value.str (Str.ofString "/claim/cut.py") 2080]) #[]
noncomputable def f526 (P : Params) : Obj := Obj.mk (Value.type "function") (none) (fdOf [58] fun a b s => FuncData.mk (Str.ofString "law") (Str.ofString "law") a b s 3 ([]) (Value.none) (Value.none) (Value.none) (Value.str (Str.ofString "law_vn0015_01") 2058) (none) (Value.ref 525) (Value.none) 0) (#[])
noncomputable def z_2 (P : Params) : Obj := Obj.mk Value.none none (Data.dict #[DictEntry.mk (PyData.keyHash P (Str.mk #[105, 109, 112, 111, 114, 116, 46, 108, 111, 97, 100, 101, 100, 46, 95, 115, 116, 114, 117, 99, 116])) (Value.str (Str.mk #[105, 109, 112, 111, 114, 116, 46, 108, 111, 97, 100, 101, 100, 46, 95, 115, 116, 114, 117, 99, 116]) 185) (Value.bool true), DictEntry.mk (PyData.keyHash P (Str.ofString "class._frozen_importlib_external._LoaderBasics")) (Value.str (Str.ofString "class._frozen_importlib_external._LoaderBasics") 190) (Value.ref 16), DictEntry.mk (PyData.keyHash P (Str.mk #[119, 97, 116, 99, 104, 101, 100, 46, 105, 109, 112, 111, 114, 116])) (Value.str (Str.mk #[119, 97, 116, 99, 104, 101, 100, 46, 105, 109, 112, 111, 114, 116]) 206) (Value.ref 20), DictEntry.mk (PyData.keyHash P (Str.ofString "class._frozen_importlib_external.FileLoader")) (Value.str (Str.ofString "class._frozen_importlib_external.FileLoader") 207) (Value.ref 22), DictEntry.mk (PyData.keyHash P (Str.ofString "class._frozen_importlib_external.ExtensionFileLoader")) (Value.str (Str.ofString "class._frozen_importlib_external.ExtensionFileLoader") 228) (Value.ref 27), DictEntry.mk (PyData.keyHash P (Str.ofString "class._frozen_importlib.ModuleSpec")) (Value.str (Str.ofString "class._frozen_importlib.ModuleSpec") 256) (Value.ref 33), DictEntry.mk (PyData.keyHash P (Str.ofString "sys.modules.booked-epoch")) (Value.str (Str.ofString "sys.modules.booked-epoch") 285) (Value.int 3 0), DictEntry.mk (PyData.keyHash P (Str.ofString "class.struct.error")) (Value.str (Str.ofString "class.struct.error") 302) (Value.type "struct.error"), DictEntry.mk (PyData.keyHash P (Str.mk #[105, 109, 112, 111, 114, 116, 46, 108, 97, 116, 101, 114, 45, 108, 97, 105, 100, 46, 95, 115, 116, 114, 117, 99, 116])) (Value.str (Str.mk #[105, 109, 112, 111, 114, 116, 46, 108, 97, 116, 101, 114, 45, 108, 97, 105, 100, 46, 95, 115, 116, 114, 117, 99, 116]) 304) (Value.bool true), DictEntry.mk (PyData.keyHash P (Str.ofString "watched.library")) (Value.str (Str.ofString "watched.library") 306) (Value.ref 38), DictEntry.mk (PyData.keyHash P (Str.ofString "watched.library-objects")) (Value.str (Str.ofString "watched.library-objects") 0) (Value.str (Str.ofString "\x0d") 0)] 11) #[]
noncomputable def z_3 (P : Params) : Obj := Obj.mk (Value.type "dict") none (Data.dict #[DictEntry.mk (PyData.keyHash P (Str.ofString "__name__")) (Value.str (Str.ofString "__name__") 165) (Value.str (Str.ofString "__main__") 164), DictEntry.mk (PyData.keyHash P (Str.ofString "__doc__")) (Value.str (Str.ofString "__doc__") 166) Value.none, DictEntry.mk (PyData.keyHash P (Str.ofString "__package__")) (Value.str (Str.ofString "__package__") 167) Value.none, DictEntry.mk (PyData.keyHash P (Str.ofString "__loader__")) (Value.str (Str.ofString "__loader__") 168) (Value.builtin "__main__.__loader__#opaque"), DictEntry.mk (PyData.keyHash P (Str.ofString "__spec__")) (Value.str (Str.ofString "__spec__") 169) Value.none, DictEntry.mk (PyData.keyHash P (Str.ofString "__annotations__")) (Value.str (Str.ofString "__annotations__") 170) (Value.ref 6), DictEntry.mk (PyData.keyHash P (Str.ofString "__builtins__")) (Value.str (Str.ofString "__builtins__") 171) (Value.ref 4), DictEntry.mk (PyData.keyHash P (Str.ofString "__file__")) (Value.str (Str.ofString "__file__") 173) (Value.str (Str.ofString "/claim/cut.py") 172), DictEntry.mk (PyData.keyHash P (Str.ofString "__cached__")) (Value.str (Str.ofString "__cached__") 174) Value.none, DictEntry.mk (PyData.keyHash P (Str.ofString "pack")) (Value.str (Str.ofString "pack") 312) (Value.builtin "_struct.pack")] 10) #[]
noncomputable def s0_40 (P : Params) : Obj := Obj.mk Value.none none (Data.fields #[]) #[]
noncomputable def s15_3 (P : Params) : Obj := Obj.mk (Value.type "dict") none (Data.dict #[DictEntry.mk (PyData.keyHash P (Str.ofString "__name__")) (Value.str (Str.ofString "__name__") 165) (Value.str (Str.ofString "rlp.exceptions") 395), DictEntry.mk (PyData.keyHash P (Str.ofString "__doc__")) (Value.str (Str.ofString "__doc__") 166) Value.none, DictEntry.mk (PyData.keyHash P (Str.ofString "__package__")) (Value.str (Str.ofString "__package__") 167) Value.none, DictEntry.mk (PyData.keyHash P (Str.ofString "__loader__")) (Value.str (Str.ofString "__loader__") 168) (Value.builtin "__main__.__loader__#opaque"), DictEntry.mk (PyData.keyHash P (Str.ofString "__spec__")) (Value.str (Str.ofString "__spec__") 169) Value.none, DictEntry.mk (PyData.keyHash P (Str.ofString "__annotations__")) (Value.str (Str.ofString "__annotations__") 170) (Value.ref 6), DictEntry.mk (PyData.keyHash P (Str.ofString "__builtins__")) (Value.str (Str.ofString "__builtins__") 171) (Value.ref 4), DictEntry.mk (PyData.keyHash P (Str.ofString "__file__")) (Value.str (Str.ofString "__file__") 173) (Value.str (Str.ofString "/claim/cut.py") 172), DictEntry.mk (PyData.keyHash P (Str.ofString "__cached__")) (Value.str (Str.ofString "__cached__") 174) Value.none, DictEntry.mk (PyData.keyHash P (Str.ofString "pack")) (Value.str (Str.ofString "pack") 312) (Value.builtin "_struct.pack"), DictEntry.mk (PyData.keyHash P (Str.ofString "_wall")) (Value.str (Str.ofString "_wall") 325) (Value.ref 49), DictEntry.mk (PyData.keyHash P (Str.ofString "B58_DIGITS")) (Value.str (Str.ofString "B58_DIGITS") 329) (Value.str (Str.ofString "123456789ABCDEFGHJKLMNPQRSTUVWXYZabcdefghijkmnopqrstuvwxyz") 328), DictEntry.mk (PyData.keyHash P (Str.ofString "encode")) (Value.str (Str.ofString "encode") 342) (Value.ref 56), DictEntry.mk (PyData.keyHash P (Str.ofString "encode_base58")) (Value.str (Str.ofString "encode_base58") 343) (Value.ref 56), DictEntry.mk (PyData.keyHash P (Str.ofString "decode")) (Value.str (Str.ofString "decode") 355) (Value.ref 63), DictEntry.mk (PyData.keyHash P (Str.ofString "decode_base58")) (Value.str (Str.ofString "decode_base58") 356) (Value.ref 63), DictEntry.mk (PyData.keyHash P (Str.ofString "convertbits")) (Value.str (Str.ofString "convertbits") 374) (Value.ref 79), DictEntry.mk (PyData.keyHash P (Str.ofString "convertbits_bech32")) (Value.str (Str.ofString "convertbits_bech32") 375) (Value.ref 71), DictEntry.mk (PyData.keyHash P (Str.ofString "convertbits_bech322")) (Value.str (Str.ofString "convertbits_bech322") 394) (Value.ref 79), DictEntry.mk (PyData.keyHash P (Str.ofString "RLPException")) (Value.str (Str.ofString "RLPException") 416) (Value.ref 89)] 20) #[]
noncomputable def s15_40 (P : Params) : Obj := Obj.mk Value.none none (Data.fields #[Value.int 2 0, Value.int 0 0, Value.ref 48, Value.int 7 0, Value.int 0 0, Value.ref 55, Value.int 22 0, Value.int 0 0, Value.ref 62, Value.int 42 0, Value.int 0 0, Value.ref 70, Value.int 64 0, Value.int 0 0, Value.ref 78, Value.int 86 0, Value.int 0 0, Value.ref 85]) #[]
noncomputable def s15_89 (P : Params) : Obj := Obj.mk (Value.type "type") none (Data.cls (ClassData.mk (Str.ofString "RLPException") [Value.type "Exception"] [Value.ref 89, Value.type "Exception", Value.type "BaseException", Value.type "object"] 88 (Str.ofString "RLPException") true [] [] false none false)) #[some (Value.ref 80), none, some (Value.str (Str.ofString "RLPException") 397), some (Value.str (Str.ofString "RLPException") 405), some (Value.builtin "Exception.__new__"), some (Value.bool true)]
noncomputable def s18_3 (P : Params) : Obj := Obj.mk (Value.type "dict") none (Data.dict #[DictEntry.mk (PyData.keyHash P (Str.ofString "__name__")) (Value.str (Str.ofString "__name__") 165) (Value.str (Str.ofString "rlp.exceptions") 395), DictEntry.mk (PyData.keyHash P (Str.ofString "__doc__")) (Value.str (Str.ofString "__doc__") 166) Value.none, DictEntry.mk (PyData.keyHash P (Str.ofString "__package__")) (Value.str (Str.ofString "__package__") 167) Value.none, DictEntry.mk (PyData.keyHash P (Str.ofString "__loader__")) (Value.str (Str.ofString "__loader__") 168) (Value.builtin "__main__.__loader__#opaque"), DictEntry.mk (PyData.keyHash P (Str.ofString "__spec__")) (Value.str (Str.ofString "__spec__") 169) Value.none, DictEntry.mk (PyData.keyHash P (Str.ofString "__annotations__")) (Value.str (Str.ofString "__annotations__") 170) (Value.ref 6), DictEntry.mk (PyData.keyHash P (Str.ofString "__builtins__")) (Value.str (Str.ofString "__builtins__") 171) (Value.ref 4), DictEntry.mk (PyData.keyHash P (Str.ofString "__file__")) (Value.str (Str.ofString "__file__") 173) (Value.str (Str.ofString "/claim/cut.py") 172), DictEntry.mk (PyData.keyHash P (Str.ofString "__cached__")) (Value.str (Str.ofString "__cached__") 174) Value.none, DictEntry.mk (PyData.keyHash P (Str.ofString "pack")) (Value.str (Str.ofString "pack") 312) (Value.builtin "_struct.pack"), DictEntry.mk (PyData.keyHash P (Str.ofString "_wall")) (Value.str (Str.ofString "_wall") 325) (Value.ref 49), DictEntry.mk (PyData.keyHash P (Str.ofString "B58_DIGITS")) (Value.str (Str.ofString "B58_DIGITS") 329) (Value.str (Str.ofString "123456789ABCDEFGHJKLMNPQRSTUVWXYZabcdefghijkmnopqrstuvwxyz") 328), DictEntry.mk (PyData.keyHash P (Str.ofString "encode")) (Value.str (Str.ofString "encode") 342) (Value.ref 56), DictEntry.mk (PyData.keyHash P (Str.ofString "encode_base58")) (Value.str (Str.ofString "encode_base58") 343) (Value.ref 56), DictEntry.mk (PyData.keyHash P (Str.ofString "decode")) (Value.str (Str.ofString "decode") 355) (Value.ref 63), DictEntry.mk (PyData.keyHash P (Str.ofString "decode_base58")) (Value.str (Str.ofString "decode_base58") 356) (Value.ref 63), DictEntry.mk (PyData.keyHash P (Str.ofString "convertbits")) (Value.str (Str.ofString "convertbits") 374) (Value.ref 79), DictEntry.mk (PyData.keyHash P (Str.ofString "convertbits_bech32")) (Value.str (Str.ofString "convertbits_bech32") 375) (Value.ref 71), DictEntry.mk (PyData.keyHash P (Str.ofString "convertbits_bech322")) (Value.str (Str.ofString "convertbits_bech322") 394) (Value.ref 79), DictEntry.mk (PyData.keyHash P (Str.ofString "RLPException")) (Value.str (Str.ofString "RLPException") 416) (Value.ref 89), DictEntry.mk (PyData.keyHash P (Str.ofString "EncodingError")) (Value.str (Str.ofString "EncodingError") 444) (Value.ref 111), DictEntry.mk (PyData.keyHash P (Str.ofString "DecodingError")) (Value.str (Str.ofString "DecodingError") 472) (Value.ref 132), DictEntry.mk (PyData.keyHash P (Str.ofString "SerializationError")) (Value.str (Str.ofString "SerializationError") 500) (Value.ref 153)] 23) #[]
noncomputable def s18_40 (P : Params) : Obj := Obj.mk Value.none none (Data.fields #[Value.int 2 0, Value.int 0 0, Value.ref 48, Value.int 7 0, Value.int 0 0, Value.ref 55, Value.int 22 0, Value.int 0 0, Value.ref 62, Value.int 42 0, Value.int 0 0, Value.ref 70, Value.int 64 0, Value.int 0 0, Value.ref 78, Value.int 86 0, Value.int 0 0, Value.ref 85, Value.int 88 0, Value.int 0 0, Value.ref 99, Value.int 93 0, Value.int 0 0, Value.ref 120, Value.int 98 0, Value.int 0 0, Value.ref 141]) #[]
noncomputable def s18_89 (P : Params) : Obj := Obj.mk (Value.type "type") none (Data.cls (ClassData.mk (Str.ofString "RLPException") [Value.type "Exception"] [Value.ref 89, Value.type "Exception", Value.type "BaseException", Value.type "object"] 88 (Str.ofString "RLPException") true [] [Value.ref 111, Value.ref 132, Value.ref 153] false none false)) #[some (Value.ref 80), none, some (Value.str (Str.ofString "RLPException") 397), some (Value.str (Str.ofString "RLPException") 405), some (Value.builtin "Exception.__new__"), some (Value.bool true)]
noncomputable def s18_153 (P : Params) : Obj := Obj.mk (Value.type "type") none (Data.cls (ClassData.mk (Str.ofString "SerializationError") [Value.ref 89] [Value.ref 153, Value.ref 89, Value.type "Exception", Value.type "BaseException", Value.type "object"] 152 (Str.ofString "SerializationError") true [] [] false none false)) #[some (Value.ref 135), none, some (Value.str (Str.ofString "SerializationError") 473), some (Value.str (Str.ofString "SerializationError") 481), some (Value.builtin "Exception.__new__"), some (Value.bool true)]
noncomputable def s22_3 (P : Params) : Obj := Obj.mk (Value.type "dict") none (Data.dict #[DictEntry.mk (PyData.keyHash P (Str.ofString "__name__")) (Value.str (Str.ofString "__name__") 165) (Value.str (Str.ofString "rlp.utils") 591), DictEntry.mk (PyData.keyHash P (Str.ofString "__doc__")) (Value.str (Str.ofString "__doc__") 166) Value.none, DictEntry.mk (PyData.keyHash P (Str.ofString "__package__")) (Value.str (Str.ofString "__package__") 167) Value.none, DictEntry.mk (PyData.keyHash P (Str.ofString "__loader__")) (Value.str (Str.ofString "__loader__") 168) (Value.builtin "__main__.__loader__#opaque"), DictEntry.mk (PyData.keyHash P (Str.ofString "__spec__")) (Value.str (Str.ofString "__spec__") 169) Value.none, DictEntry.mk (PyData.keyHash P (Str.ofString "__annotations__")) (Value.str (Str.ofString "__annotations__") 170) (Value.ref 6), DictEntry.mk (PyData.keyHash P (Str.ofString "__builtins__")) (Value.str (Str.ofString "__builtins__") 171) (Value.ref 4), DictEntry.mk (PyData.keyHash P (Str.ofString "__file__")) (Value.str (Str.ofString "__file__") 173) (Value.str (Str.ofString "/claim/cut.py") 172), DictEntry.mk (PyData.keyHash P (Str.ofString "__cached__")) (Value.str (Str.ofString "__cached__") 174) Value.none, DictEntry.mk (PyData.keyHash P (Str.ofString "pack")) (Value.str (Str.ofString "pack") 312) (Value.builtin "_struct.pack"), DictEntry.mk (PyData.keyHash P (Str.ofString "_wall")) (Value.str (Str.ofString "_wall") 325) (Value.ref 49), DictEntry.mk (PyData.keyHash P (Str.ofString "B58_DIGITS")) (Value.str (Str.ofString "B58_DIGITS") 329) (Value.str (Str.ofString "123456789ABCDEFGHJKLMNPQRSTUVWXYZabcdefghijkmnopqrstuvwxyz") 328), DictEntry.mk (PyData.keyHash P (Str.ofString "encode")) (Value.str (Str.ofString "encode") 342) (Value.ref 56), DictEntry.mk (PyData.keyHash P (Str.ofString "encode_base58")) (Value.str (Str.ofString "encode_base58") 343) (Value.ref 56), DictEntry.mk (PyData.keyHash P (Str.ofString "decode")) (Value.str (Str.ofString "decode") 355) (Value.ref 63), DictEntry.mk (PyData.keyHash P (Str.ofString "decode_base58")) (Value.str (Str.ofString "decode_base58") 356) (Value.ref 63), DictEntry.mk (PyData.keyHash P (Str.ofString "convertbits")) (Value.str (Str.ofString "convertbits") 374) (Value.ref 79), DictEntry.mk (PyData.keyHash P (Str.ofString "convertbits_bech32")) (Value.str (Str.ofString "convertbits_bech32") 375) (Value.ref 71), DictEntry.mk (PyData.keyHash P (Str.ofString "convertbits_bech322")) (Value.str (Str.ofString "convertbits_bech322") 394) (Value.ref 79), DictEntry.mk (PyData.keyHash P (Str.ofString "RLPException")) (Value.str (Str.ofString "RLPException") 416) (Value.ref 89), DictEntry.mk (PyData.keyHash P (Str.ofString "EncodingError")) (Value.str (Str.ofString "EncodingError") 444) (Value.ref 111), DictEntry.mk (PyData.keyHash P (Str.ofString "DecodingError")) (Value.str (Str.ofString "DecodingError") 472) (Value.ref 132), DictEntry.mk (PyData.keyHash P (Str.ofString "SerializationError")) (Value.str (Str.ofString "SerializationError") 500) (Value.ref 153), DictEntry.mk (PyData.keyHash P (Str.ofString "ListSerializationError")) (Value.str (Str.ofString "ListSerializationError") 531) (Value.ref 175), DictEntry.mk (PyData.keyHash P (Str.ofString "DeserializationError")) (Value.str (Str.ofString "DeserializationError") 559) (Value.ref 196), DictEntry.mk (PyData.keyHash P (Str.ofString "ListDeserializationError")) (Value.str (Str.ofString "ListDeserializationError") 590) (Value.ref 218)] 26) #[]
noncomputable def s22_40 (P : Params) : Obj := Obj.mk Value.none none (Data.fields #[Value.int 2 0, Value.int 0 0, Value.ref 48, Value.int 7 0, Value.int 0 0, Value.ref 55, Value.int 22 0, Value.int 0 0, Value.ref 62, Value.int 42 0, Value.int 0 0, Value.ref 70, Value.int 64 0, Value.int 0 0, Value.ref 78, Value.int 86 0, Value.int 0 0, Value.ref 85, Value.int 88 0, Value.int 0 0, Value.ref 99, Value.int 93 0, Value.int 0 0, Value.ref 120, Value.int 98 0, Value.int 0 0, Value.ref 141, Value.int 103 0, Value.int 0 0, Value.ref 162, Value.int 113 0, Value.int 0 0, Value.ref 184, Value.int 118 0, Value.int 0 0, Value.ref 205]) #[]
noncomputable def s23_3 (P : Params) : Obj := Obj.mk (Value.type "dict") none (Data.dict #[DictEntry.mk (PyData.keyHash P (Str.ofString "__name__")) (Value.str (Str.ofString "__name__") 165) (Value.str (Str.ofString "rlp.utils") 591), DictEntry.mk (PyData.keyHash P (Str.ofString "__doc__")) (Value.str (Str.ofString "__doc__") 166) Value.none, DictEntry.mk (PyData.keyHash P (Str.ofString "__package__")) (Value.str (Str.ofString "__package__") 167) Value.none, DictEntry.mk (PyData.keyHash P (Str.ofString "__loader__")) (Value.str (Str.ofString "__loader__") 168) (Value.builtin "__main__.__loader__#opaque"), DictEntry.mk (PyData.keyHash P (Str.ofString "__spec__")) (Value.str (Str.ofString "__spec__") 169) Value.none, DictEntry.mk (PyData.keyHash P (Str.ofString "__annotations__")) (Value.str (Str.ofString "__annotations__") 170) (Value.ref 6), DictEntry.mk (PyData.keyHash P (Str.ofString "__builtins__")) (Value.str (Str.ofString "__builtins__") 171) (Value.ref 4), DictEntry.mk (PyData.keyHash P (Str.ofString "__file__")) (Value.str (Str.ofString "__file__") 173) (Value.str (Str.ofString "/claim/cut.py") 172), DictEntry.mk (PyData.keyHash P (Str.ofString "__cached__")) (Value.str (Str.ofString "__cached__") 174) Value.none, DictEntry.mk (PyData.keyHash P (Str.ofString "pack")) (Value.str (Str.ofString "pack") 312) (Value.builtin "_struct.pack"), DictEntry.mk (PyData.keyHash P (Str.ofString "_wall")) (Value.str (Str.ofString "_wall") 325) (Value.ref 49), DictEntry.mk (PyData.keyHash P (Str.ofString "B58_DIGITS")) (Value.str (Str.ofString "B58_DIGITS") 329) (Value.str (Str.ofString "123456789ABCDEFGHJKLMNPQRSTUVWXYZabcdefghijkmnopqrstuvwxyz") 328), DictEntry.mk (PyData.keyHash P (Str.ofString "encode")) (Value.str (Str.ofString "encode") 342) (Value.ref 56), DictEntry.mk (PyData.keyHash P (Str.ofString "encode_base58")) (Value.str (Str.ofString "encode_base58") 343) (Value.ref 56), DictEntry.mk (PyData.keyHash P (Str.ofString "decode")) (Value.str (Str.ofString "decode") 355) (Value.ref 63), DictEntry.mk (PyData.keyHash P (Str.ofString "decode_base58")) (Value.str (Str.ofString "decode_base58") 356) (Value.ref 63), DictEntry.mk (PyData.keyHash P (Str.ofString "convertbits")) (Value.str (Str.ofString "convertbits") 374) (Value.ref 79), DictEntry.mk (PyData.keyHash P (Str.ofString "convertbits_bech32")) (Value.str (Str.ofString "convertbits_bech32") 375) (Value.ref 71), DictEntry.mk (PyData.keyHash P (Str.ofString "convertbits_bech322")) (Value.str (Str.ofString "convertbits_bech322") 394) (Value.ref 79), DictEntry.mk (PyData.keyHash P (Str.ofString "RLPException")) (Value.str (Str.ofString "RLPException") 416) (Value.ref 89), DictEntry.mk (PyData.keyHash P (Str.ofString "EncodingError")) (Value.str (Str.ofString "EncodingError") 444) (Value.ref 111), DictEntry.mk (PyData.keyHash P (Str.ofString "DecodingError")) (Value.str (Str.ofString "DecodingError") 472) (Value.ref 132), DictEntry.mk (PyData.keyHash P (Str.ofString "SerializationError")) (Value.str (Str.ofString "SerializationError") 500) (Value.ref 153), DictEntry.mk (PyData.keyHash P (Str.ofString "ListSerializationError")) (Value.str (Str.ofString "ListSerializationError") 531) (Value.ref 175), DictEntry.mk (PyData.keyHash P (Str.ofString "DeserializationError")) (Value.str (Str.ofString "DeserializationError") 559) (Value.ref 196), DictEntry.mk (PyData.keyHash P (Str.ofString "ListDeserializationError")) (Value.str (Str.ofString "ListDeserializationError") 590) (Value.ref 218), DictEntry.mk (PyData.keyHash P (Str.ofString "ALL_BYTES")) (Value.str (Str.ofString "ALL_BYTES") 1628) (Value.ref 233)] 27) #[]
noncomputable def s23_40 (P : Params) : Obj := Obj.mk Value.none none (Data.fields #[Value.int 2 0, Value.int 0 0, Value.ref 48, Value.int 7 0, Value.int 0 0, Value.ref 55, Value.int 22 0, Value.int 0 0, Value.ref 62, Value.int 42 0, Value.int 0 0, Value.ref 70, Value.int 64 0, Value.int 0 0, Value.ref 78, Value.int 86 0, Value.int 0 0, Value.ref 85, Value.int 88 0, Value.int 0 0, Value.ref 99, Value.int 93 0, Value.int 0 0, Value.ref 120, Value.int 98 0, Value.int 0 0, Value.ref 141, Value.int 103 0, Value.int 0 0, Value.ref 162, Value.int 113 0, Value.int 0 0, Value.ref 184, Value.int 118 0, Value.int 0 0, Value.ref 205, Value.int 129 0, Value.int 18 0, Value.ref 225]) #[]
noncomputable def s32_3 (P : Params) : Obj := Obj.mk (Value.type "dict") none (Data.dict #[DictEntry.mk (PyData.keyHash P (Str.ofString "__name__")) (Value.str (Str.ofString "__name__") 165) (Value.str (Str.ofString "rlp.sedes.binary") 1705), DictEntry.mk (PyData.keyHash P (Str.ofString "__doc__")) (Value.str (Str.ofString "__doc__") 166) Value.none, DictEntry.mk (PyData.keyHash P (Str.ofString "__package__")) (Value.str (Str.ofString "__package__") 167) Value.none, DictEntry.mk (PyData.keyHash P (Str.ofString "__loader__")) (Value.str (Str.ofString "__loader__") 168) (Value.builtin "__main__.__loader__#opaque"), DictEntry.mk (PyData.keyHash P (Str.ofString "__spec__")) (Value.str (Str.ofString "__spec__") 169) Value.none, DictEntry.mk (PyData.keyHash P (Str.ofString "__annotations__")) (Value.str (Str.ofString "__annotations__") 170) (Value.ref 6), DictEntry.mk (PyData.keyHash P (Str.ofString "__builtins__")) (Value.str (Str.ofString "__builtins__") 171) (Value.ref 4), DictEntry.mk (PyData.keyHash P (Str.ofString "__file__")) (Value.str (Str.ofString "__file__") 173) (Value.str (Str.ofString "/claim/cut.py") 172), DictEntry.mk (PyData.keyHash P (Str.ofString "__cached__")) (Value.str (Str.ofString "__cached__") 174) Value.none, DictEntry.mk (PyData.keyHash P (Str.ofString "pack")) (Value.str (Str.ofString "pack") 312) (Value.builtin "_struct.pack"), DictEntry.mk (PyData.keyHash P (Str.ofString "_wall")) (Value.str (Str.ofString "_wall") 325) (Value.ref 49), DictEntry.mk (PyData.keyHash P (Str.ofString "B58_DIGITS")) (Value.str (Str.ofString "B58_DIGITS") 329) (Value.str (Str.ofString "123456789ABCDEFGHJKLMNPQRSTUVWXYZabcdefghijkmnopqrstuvwxyz") 328), DictEntry.mk (PyData.keyHash P (Str.ofString "encode")) (Value.str (Str.ofString "encode") 342) (Value.ref 56), DictEntry.mk (PyData.keyHash P (Str.ofString "encode_base58")) (Value.str (Str.ofString "encode_base58") 343) (Value.ref 56), DictEntry.mk (PyData.keyHash P (Str.ofString "decode")) (Value.str (Str.ofString "decode") 355) (Value.ref 63), DictEntry.mk (PyData.keyHash P (Str.ofString "decode_base58")) (Value.str (Str.ofString "decode_base58") 356) (Value.ref 63), DictEntry.mk (PyData.keyHash P (Str.ofString "convertbits")) (Value.str (Str.ofString "convertbits") 374) (Value.ref 79), DictEntry.mk (PyData.keyHash P (Str.ofString "convertbits_bech32")) (Value.str (Str.ofString "convertbits_bech32") 375) (Value.ref 71), DictEntry.mk (PyData.keyHash P (Str.ofString "convertbits_bech322")) (Value.str (Str.ofString "convertbits_bech322") 394) (Value.ref 79), DictEntry.mk (PyData.keyHash P (Str.ofString "RLPException")) (Value.str (Str.ofString "RLPException") 416) (Value.ref 89), DictEntry.mk (PyData.keyHash P (Str.ofString "EncodingError")) (Value.str (Str.ofString "EncodingError") 444) (Value.ref 111), DictEntry.mk (PyData.keyHash P (Str.ofString "DecodingError")) (Value.str (Str.ofString "DecodingError") 472) (Value.ref 132), DictEntry.mk (PyData.keyHash P (Str.ofString "SerializationError")) (Value.str (Str.ofString "SerializationError") 500) (Value.ref 153), DictEntry.mk (PyData.keyHash P (Str.ofString "ListSerializationError")) (Value.str (Str.ofString "ListSerializationError") 531) (Value.ref 175), DictEntry.mk (PyData.keyHash P (Str.ofString "DeserializationError")) (Value.str (Str.ofString "DeserializationError") 559) (Value.ref 196), DictEntry.mk (PyData.keyHash P (Str.ofString "ListDeserializationError")) (Value.str (Str.ofString "ListDeserializationError") 590) (Value.ref 218), DictEntry.mk (PyData.keyHash P (Str.ofString "ALL_BYTES")) (Value.str (Str.ofString "ALL_BYTES") 1628) (Value.ref 233), DictEntry.mk (PyData.keyHash P (Str.ofString "Atomic")) (Value.str (Str.ofString "Atomic") 1629) (Value.ref 234), DictEntry.mk (PyData.keyHash P (Str.ofString "Sequence")) (Value.str (Str.ofString "Sequence") 1630) (Value.ref 235), DictEntry.mk (PyData.keyHash P (Str.ofString "is_bytes")) (Value.str (Str.ofString "is_bytes") 1637) (Value.ref 242), DictEntry.mk (PyData.keyHash P (Str.ofString "big_endian_to_int")) (Value.str (Str.ofString "big_endian_to_int") 1644) (Value.ref 249), DictEntry.mk (PyData.keyHash P (Str.ofString "int_to_big_endian")) (Value.str (Str.ofString "int_to_big_endian") 1651) (Value.ref 256), DictEntry.mk (PyData.keyHash P (Str.ofString "BigEndianInt")) (Value.str (Str.ofString "BigEndianInt") 1699) (Value.ref 288), DictEntry.mk (PyData.keyHash P (Str.ofString "big_endian_int")) (Value.str (Str.ofString "big_endian_int") 1704) (Value.ref 294)] 34) #[]
noncomputable def s32_40 (P : Params) : Obj := Obj.mk Value.none none (Data.fields #[Value.int 2 0, Value.int 0 0, Value.ref 48, Value.int 7 0, Value.int 0 0, Value.ref 55, Value.int 22 0, Value.int 0 0, Value.ref 62, Value.int 42 0, Value.int 0 0, Value.ref 70, Value.int 64 0, Value.int 0 0, Value.ref 78, Value.int 86 0, Value.int 0 0, Value.ref 85, Value.int 88 0, Value.int 0 0, Value.ref 99, Value.int 93 0, Value.int 0 0, Value.ref 120, Value.int 98 0, Value.int 0 0, Value.ref 141, Value.int 103 0, Value.int 0 0, Value.ref 162, Value.int 113 0, Value.int 0 0, Value.ref 184, Value.int 118 0, Value.int 0 0, Value.ref 205, Value.int 129 0, Value.int 18 0, Value.ref 225, Value.int 132 0, Value.int 0 0, Value.ref 241, Value.int 134 0, Value.int 0 0, Value.ref 248, Value.int 136 0, Value.int 0 0, Value.ref 255, Value.int 139 0, Value.int 0 0, Value.ref 262]) #[]
noncomputable def s33_3 (P : Params) : Obj := Obj.mk (Value.type "dict") none (Data.dict #[DictEntry.mk (PyData.keyHash P (Str.ofString "__name__")) (Value.str (Str.ofString "__name__") 165) (Value.str (Str.ofString "rlp.sedes.binary") 1705), DictEntry.mk (PyData.keyHash P (Str.ofString "__doc__")) (Value.str (Str.ofString "__doc__") 166) Value.none, DictEntry.mk (PyData.keyHash P (Str.ofString "__package__")) (Value.str (Str.ofString "__package__") 167) Value.none, DictEntry.mk (PyData.keyHash P (Str.ofString "__loader__")) (Value.str (Str.ofString "__loader__") 168) (Value.builtin "__main__.__loader__#opaque"), DictEntry.mk (PyData.keyHash P (Str.ofString "__spec__")) (Value.str (Str.ofString "__spec__") 169) Value.none, DictEntry.mk (PyData.keyHash P (Str.ofString "__annotations__")) (Value.str (Str.ofString "__annotations__") 170) (Value.ref 6), DictEntry.mk (PyData.keyHash P (Str.ofString "__builtins__")) (Value.str (Str.ofString "__builtins__") 171) (Value.ref 4), DictEntry.mk (PyData.keyHash P (Str.ofString "__file__")) (Value.str (Str.ofString "__file__") 173) (Value.str (Str.ofString "/claim/cut.py") 172), DictEntry.mk (PyData.keyHash P (Str.ofString "__cached__")) (Value.str (Str.ofString "__cached__") 174) Value.none, DictEntry.mk (PyData.keyHash P (Str.ofString "pack")) (Value.str (Str.ofString "pack") 312) (Value.builtin "_struct.pack"), DictEntry.mk (PyData.keyHash P (Str.ofString "_wall")) (Value.str (Str.ofString "_wall") 325) (Value.ref 49), DictEntry.mk (PyData.keyHash P (Str.ofString "B58_DIGITS")) (Value.str (Str.ofString "B58_DIGITS") 329) (Value.str (Str.ofString "123456789ABCDEFGHJKLMNPQRSTUVWXYZabcdefghijkmnopqrstuvwxyz") 328), DictEntry.mk (PyData.keyHash P (Str.ofString "encode")) (Value.str (Str.ofString "encode") 342) (Value.ref 56), DictEntry.mk (PyData.keyHash P (Str.ofString "encode_base58")) (Value.str (Str.ofString "encode_base58") 343) (Value.ref 56), DictEntry.mk (PyData.keyHash P (Str.ofString "decode")) (Value.str (Str.ofString "decode") 355) (Value.ref 63), DictEntry.mk (PyData.keyHash P (Str.ofString "decode_base58")) (Value.str (Str.ofString "decode_base58") 356) (Value.ref 63), DictEntry.mk (PyData.keyHash P (Str.ofString "convertbits")) (Value.str (Str.ofString "convertbits") 374) (Value.ref 79), DictEntry.mk (PyData.keyHash P (Str.ofString "convertbits_bech32")) (Value.str (Str.ofString "convertbits_bech32") 375) (Value.ref 71), DictEntry.mk (PyData.keyHash P (Str.ofString "convertbits_bech322")) (Value.str (Str.ofString "convertbits_bech322") 394) (Value.ref 79), DictEntry.mk (PyData.keyHash P (Str.ofString "RLPException")) (Value.str (Str.ofString "RLPException") 416) (Value.ref 89), DictEntry.mk (PyData.keyHash P (Str.ofString "EncodingError")) (Value.str (Str.ofString "EncodingError") 444) (Value.ref 111), DictEntry.mk (PyData.keyHash P (Str.ofString "DecodingError")) (Value.str (Str.ofString "DecodingError") 472) (Value.ref 132), DictEntry.mk (PyData.keyHash P (Str.ofString "SerializationError")) (Value.str (Str.ofString "SerializationError") 500) (Value.ref 153), DictEntry.mk (PyData.keyHash P (Str.ofString "ListSerializationError")) (Value.str (Str.ofString "ListSerializationError") 531) (Value.ref 175), DictEntry.mk (PyData.keyHash P (Str.ofString "DeserializationError")) (Value.str (Str.ofString "DeserializationError") 559) (Value.ref 196), DictEntry.mk (PyData.keyHash P (Str.ofString "ListDeserializationError")) (Value.str (Str.ofString "ListDeserializationError") 590) (Value.ref 218), DictEntry.mk (PyData.keyHash P (Str.ofString "ALL_BYTES")) (Value.str (Str.ofString "ALL_BYTES") 1628) (Value.ref 233), DictEntry.mk (PyData.keyHash P (Str.ofString "Atomic")) (Value.str (Str.ofString "Atomic") 1629) (Value.ref 234), DictEntry.mk (PyData.keyHash P (Str.ofString "Sequence")) (Value.str (Str.ofString "Sequence") 1630) (Value.ref 235), DictEntry.mk (PyData.keyHash P (Str.ofString "is_bytes")) (Value.str (Str.ofString "is_bytes") 1637) (Value.ref 242), DictEntry.mk (PyData.keyHash P (Str.ofString "big_endian_to_int")) (Value.str (Str.ofString "big_endian_to_int") 1644) (Value.ref 249), DictEntry.mk (PyData.keyHash P (Str.ofString "int_to_big_endian")) (Value.str (Str.ofString "int_to_big_endian") 1651) (Value.ref 256), DictEntry.mk (PyData.keyHash P (Str.ofString "BigEndianInt")) (Value.str (Str.ofString "BigEndianInt") 1699) (Value.ref 288), DictEntry.mk (PyData.keyHash P (Str.ofString "big_endian_int")) (Value.str (Str.ofString "big_endian_int") 1704) (Value.ref 294), DictEntry.mk (PyData.keyHash P (Str.ofString "Binary")) (Value.str (Str.ofString "Binary") 1804) (Value.ref 355)] 35) #[]
noncomputable def s33_40 (P : Params) : Obj := Obj.mk Value.none none (Data.fields #[Value.int 2 0, Value.int 0 0, Value.ref 48, Value.int 7 0, Value.int 0 0, Value.ref 55, Value.int 22 0, Value.int 0 0, Value.ref 62, Value.int 42 0, Value.int 0 0, Value.ref 70, Value.int 64 0, Value.int 0 0, Value.ref 78, Value.int 86 0, Value.int 0 0, Value.ref 85, Value.int 88 0, Value.int 0 0, Value.ref 99, Value.int 93 0, Value.int 0 0, Value.ref 120, Value.int 98 0, Value.int 0 0, Value.ref 141, Value.int 103 0, Value.int 0 0, Value.ref 162, Value.int 113 0, Value.int 0 0, Value.ref 184, Value.int 118 0, Value.int 0 0, Value.ref 205, Value.int 129 0, Value.int 18 0, Value.ref 225, Value.int 132 0, Value.int 0 0, Value.ref 241, Value.int 134 0, Value.int 0 0, Value.ref 248, Value.int 136 0, Value.int 0 0, Value.ref 255, Value.int 139 0, Value.int 0 0, Value.ref 262, Value.int 169 0, Value.int 0 0, Value.ref 301]) #[]
noncomputable def s40_3 (P : Params) : Obj := Obj.mk (Value.type "dict") none (Data.dict #[DictEntry.mk (PyData.keyHash P (Str.ofString "__name__")) (Value.str (Str.ofString "__name__") 165) (Value.str (Str.ofString "rlp.sedes.lists") 1858), DictEntry.mk (PyData.keyHash P (Str.ofString "__doc__")) (Value.str (Str.ofString "__doc__") 166) Value.none, DictEntry.mk (PyData.keyHash P (Str.ofString "__package__")) (Value.str (Str.ofString "__package__") 167) Value.none, DictEntry.mk (PyData.keyHash P (Str.ofString "__loader__")) (Value.str (Str.ofString "__loader__") 168) (Value.builtin "__main__.__loader__#opaque"), DictEntry.mk (PyData.keyHash P (Str.ofString "__spec__")) (Value.str (Str.ofString "__spec__") 169) Value.none, DictEntry.mk (PyData.keyHash P (Str.ofString "__annotations__")) (Value.str (Str.ofString "__annotations__") 170) (Value.ref 6), DictEntry.mk (PyData.keyHash P (Str.ofString "__builtins__")) (Value.str (Str.ofString "__builtins__") 171) (Value.ref 4), DictEntry.mk (PyData.keyHash P (Str.ofString "__file__")) (Value.str (Str.ofString "__file__") 173) (Value.str (Str.ofString "/claim/cut.py") 172), DictEntry.mk (PyData.keyHash P (Str.ofString "__cached__")) (Value.str (Str.ofString "__cached__") 174) Value.none, DictEntry.mk (PyData.keyHash P (Str.ofString "pack")) (Value.str (Str.ofString "pack") 312) (Value.builtin "_struct.pack"), DictEntry.mk (PyData.keyHash P (Str.ofString "_wall")) (Value.str (Str.ofString "_wall") 325) (Value.ref 49), DictEntry.mk (PyData.keyHash P (Str.ofString "B58_DIGITS")) (Value.str (Str.ofString "B58_DIGITS") 329) (Value.str (Str.ofString "123456789ABCDEFGHJKLMNPQRSTUVWXYZabcdefghijkmnopqrstuvwxyz") 328), DictEntry.mk (PyData.keyHash P (Str.ofString "encode")) (Value.str (Str.ofString "encode") 342) (Value.ref 56), DictEntry.mk (PyData.keyHash P (Str.ofString "encode_base58")) (Value.str (Str.ofString "encode_base58") 343) (Value.ref 56), DictEntry.mk (PyData.keyHash P (Str.ofString "decode")) (Value.str (Str.ofString "decode") 355) (Value.ref 63), DictEntry.mk (PyData.keyHash P (Str.ofString "decode_base58")) (Value.str (Str.ofString "decode_base58") 356) (Value.ref 63), DictEntry.mk (PyData.keyHash P (Str.ofString "convertbits")) (Value.str (Str.ofString "convertbits") 374) (Value.ref 79), DictEntry.mk (PyData.keyHash P (Str.ofString "convertbits_bech32")) (Value.str (Str.ofString "convertbits_bech32") 375) (Value.ref 71), DictEntry.mk (PyData.keyHash P (Str.ofString "convertbits_bech322")) (Value.str (Str.ofString "convertbits_bech322") 394) (Value.ref 79), DictEntry.mk (PyData.keyHash P (Str.ofString "RLPException")) (Value.str (Str.ofString "RLPException") 416) (Value.ref 89), DictEntry.mk (PyData.keyHash P (Str.ofString "EncodingError")) (Value.str (Str.ofString "EncodingError") 444) (Value.ref 111), DictEntry.mk (PyData.keyHash P (Str.ofString "DecodingError")) (Value.str (Str.ofString "DecodingError") 472) (Value.ref 132), DictEntry.mk (PyData.keyHash P (Str.ofString "SerializationError")) (Value.str (Str.ofString "SerializationError") 500) (Value.ref 153), DictEntry.mk (PyData.keyHash P (Str.ofString "ListSerializationError")) (Value.str (Str.ofString "ListSerializationError") 531) (Value.ref 175), DictEntry.mk (PyData.keyHash P (Str.ofString "DeserializationError")) (Value.str (Str.ofString "DeserializationError") 559) (Value.ref 196), DictEntry.mk (PyData.keyHash P (Str.ofString "ListDeserializationError")) (Value.str (Str.ofString "ListDeserializationError") 590) (Value.ref 218), DictEntry.mk (PyData.keyHash P (Str.ofString "ALL_BYTES")) (Value.str (Str.ofString "ALL_BYTES") 1628) (Value.ref 233), DictEntry.mk (PyData.keyHash P (Str.ofString "Atomic")) (Value.str (Str.ofString "Atomic") 1629) (Value.ref 234), DictEntry.mk (PyData.keyHash P (Str.ofString "Sequence")) (Value.str (Str.ofString "Sequence") 1630) (Value.ref 235), DictEntry.mk (PyData.keyHash P (Str.ofString "is_bytes")) (Value.str (Str.ofString "is_bytes") 1637) (Value.ref 242), DictEntry.mk (PyData.keyHash P (Str.ofString "big_endian_to_int")) (Value.str (Str.ofString "big_endian_to_int") 1644) (Value.ref 249), DictEntry.mk (PyData.keyHash P (Str.ofString "int_to_big_endian")) (Value.str (Str.ofString "int_to_big_endian") 1651) (Value.ref 256), DictEntry.mk (PyData.keyHash P (Str.ofString "BigEndianInt")) (Value.str (Str.ofString "BigEndianInt") 1699) (Value.ref 288), DictEntry.mk (PyData.keyHash P (Str.ofString "big_endian_int")) (Value.str (Str.ofString "big_endian_int") 1704) (Value.ref 294), DictEntry.mk (PyData.keyHash P (Str.ofString "Binary")) (Value.str (Str.ofString "Binary") 1804) (Value.ref 355), DictEntry.mk (PyData.keyHash P (Str.ofString "binary")) (Value.str (Str.ofString "binary") 1818) (Value.ref 361), DictEntry.mk (PyData.keyHash P (Str.ofString "Boolean")) (Value.str (Str.ofString "Boolean") 1856) (Value.ref 386), DictEntry.mk (PyData.keyHash P (Str.ofString "boolean")) (Value.str (Str.ofString "boolean") 1857) (Value.ref 392), DictEntry.mk (PyData.keyHash P (Str.ofString "is_sedes")) (Value.str (Str.ofString "is_sedes") 1866) (Value.ref 399), DictEntry.mk (PyData.keyHash P (Str.ofString "is_sequence")) (Value.str (Str.ofString "is_sequence") 1873) (Value.ref 406)] 40) #[]
noncomputable def s40_40 (P : Params) : Obj := Obj.mk Value.none none (Data.fields #[Value.int 2 0, Value.int 0 0, Value.ref 48, Value.int 7 0, Value.int 0 0, Value.ref 55, Value.int 22 0, Value.int 0 0, Value.ref 62, Value.int 42 0, Value.int 0 0, Value.ref 70, Value.int 64 0, Value.int 0 0, Value.ref 78, Value.int 86 0, Value.int 0 0, Value.ref 85, Value.int 88 0, Value.int 0 0, Value.ref 99, Value.int 93 0, Value.int 0 0, Value.ref 120, Value.int 98 0, Value.int 0 0, Value.ref 141, Value.int 103 0, Value.int 0 0, Value.ref 162, Value.int 113 0, Value.int 0 0, Value.ref 184, Value.int 118 0, Value.int 0 0, Value.ref 205, Value.int 129 0, Value.int 18 0, Value.ref 225, Value.int 132 0, Value.int 0 0, Value.ref 241, Value.int 134 0, Value.int 0 0, Value.ref 248, Value.int 136 0, Value.int 0 0, Value.ref 255, Value.int 139 0, Value.int 0 0, Value.ref 262, Value.int 169 0, Value.int 0 0, Value.ref 301, Value.int 206 0, Value.int 0 0, Value.ref 368, Value.int 227 0, Value.int 0 0, Value.ref 398, Value.int 229 0, Value.int 0 0, Value.ref 405]) #[]
noncomputable def tree_s0 (P : Params) : BT := (.node (f0 P) (.node (f1 P) (.node (z_3 P) (.node (f7 P) (.node (f15 P) (.node (f31 P) .nil .nil) .nil) (.node (f23 P) (.node (f39 P) .nil .nil) .nil)) (.node (f11 P) (.node (f19 P) (.node (f35 P) .nil .nil) .nil) (.node (f27 P) .nil .nil))) (.node (f5 P) (.node (f9 P) (.node (f17 P) (.node (f33 P) .nil .nil) .nil) (.node (f25 P) (.node (f41 P) .nil .nil) .nil)) (.node (f13 P) (.node (f21 P) (.node (f37 P) .nil .nil) .nil) (.node (f29 P) .nil .nil)))) (.node (z_2 P) (.node (f4 P) (.node (f8 P) (.node (f16 P) (.node (f32 P) .nil .nil) .nil) (.node (f24 P) (.node (s0_40 P) .nil .nil) .nil)) (.node (f12 P) (.node (f20 P) (.node (f36 P) .nil .nil) .nil) (.node (f28 P) .nil .nil))) (.node (f6 P) (.node (f10 P) (.node (f18 P) (.node (f34 P) .nil .nil) .nil) (.node (f26 P) (.node (f42 P) .nil .nil) .nil)) (.node (f14 P) (.node (f22 P) (.node (f38 P) .nil .nil) .nil) (.node (f30 P) .nil .nil)))))
noncomputable def tree_s15 (P : Params) : BT := (.node (f0 P) (.node (f1 P) (.node (s15_3 P) (.node (f7 P) (.node (f15 P) (.node (f31 P) (.node (f63 P) .nil .nil) .nil) (.node (f47 P) (.node (f79 P) .nil .nil) .nil)) (.node (f23 P) (.node (f39 P) (.node (f71 P) .nil .nil) .nil) (.node (f55 P) (.node (f87 P) .nil .nil) .nil))) (.node (f11 P) (.node (f19 P) (.node (f35 P) (.node (f67 P) .nil .nil) .nil) (.node (f51 P) (.node (f83 P) .nil .nil) .nil)) (.node (f27 P) (.node (f43 P) (.node (f75 P) .nil .nil) .nil) (.node (f59 P) (.node (f91 P) .nil .nil) .nil)))) (.node (f5 P) (.node (f9 P) (.node (f17 P) (.node (f33 P) (.node (f65 P) .nil .nil) .nil) (.node (f49 P) (.node (f81 P) .nil .nil) .nil)) (.node (f25 P) (.node (f41 P) (.node (f73 P) .nil .nil) .nil) (.node (f57 P) (.node (s15_89 P) .nil .nil) .nil))) (.node (f13 P) (.node (f21 P) (.node (f37 P) (.node (f69 P) .nil .nil) .nil) (.node (f53 P) (.node (f85 P) .nil .nil) .nil)) (.node (f29 P) (.node (f45 P) (.node (f77 P) .nil .nil) .nil) (.node (f61 P) .nil .nil))))) (.node (f2 P) (.node (f4 P) (.node (f8 P) (.node (f16 P) (.node (f32 P) (.node (f64 P) .nil .nil) .nil) (.node (f48 P) (.node (f80 P) .nil .nil) .nil)) (.node (f24 P) (.node (s15_40 P) (.node (f72 P) .nil .nil) .nil) (.node (f56 P) (.node (f88 P) .nil .nil) .nil))) (.node (f12 P) (.node (f20 P) (.node (f36 P) (.node (f68 P) .nil .nil) .nil) (.node (f52 P) (.node (f84 P) .nil .nil) .nil)) (.node (f28 P) (.node (f44 P) (.node (f76 P) .nil .nil) .nil) (.node (f60 P) (.node (f92 P) .nil .nil) .nil)))) (.node (f6 P) (.node (f10 P) (.node (f18 P) (.node (f34 P) (.node (f66 P) .nil .nil) .nil) (.node (f50 P) (.node (f82 P) .nil .nil) .nil)) (.node (f26 P) (.node (f42 P) (.node (f74 P) .nil .nil) .nil) (.node (f58 P) (.node (f90 P) .nil .nil) .nil))) (.node (f14 P) (.node (f22 P) (.node (f38 P) (.node (f70 P) .nil .nil) .nil) (.node (f54 P) (.node (f86 P) .nil .nil) .nil)) (.node (f30 P) (.node (f46 P) (.node (f78 P) .nil .nil) .nil) (.node (f62 P) .nil .nil))))))
noncomputable def tree_s18 (P : Params) : BT := (.node (f0 P) (.node (f1 P) (.node (s18_3 P) (.node (f7 P) (.node (f15 P) (.node (f31 P) (.node (f63 P) (.node (f127 P) .nil .nil) .nil) (.node (f95 P) .nil .nil)) (.node (f47 P) (.node (f79 P) (.node (f143 P) .nil .nil) .nil) (.node (f111 P) .nil .nil))) (.node (f23 P) (.node (f39 P) (.node (f71 P) (.node (f135 P) .nil .nil) .nil) (.node (f103 P) .nil .nil)) (.node (f55 P) (.node (f87 P) (.node (f151 P) .nil .nil) .nil) (.node (f119 P) .nil .nil)))) (.node (f11 P) (.node (f19 P) (.node (f35 P) (.node (f67 P) (.node (f131 P) .nil .nil) .nil) (.node (f99 P) .nil .nil)) (.node (f51 P) (.node (f83 P) (.node (f147 P) .nil .nil) .nil) (.node (f115 P) .nil .nil))) (.node (f27 P) (.node (f43 P) (.node (f75 P) (.node (f139 P) .nil .nil) .nil) (.node (f107 P) .nil .nil)) (.node (f59 P) (.node (f91 P) (.node (f155 P) .nil .nil) .nil) (.node (f123 P) .nil .nil))))) (.node (f5 P) (.node (f9 P) (.node (f17 P) (.node (f33 P) (.node (f65 P) (.node (f129 P) .nil .nil) .nil) (.node (f97 P) .nil .nil)) (.node (f49 P) (.node (f81 P) (.node (f145 P) .nil .nil) .nil) (.node (f113 P) .nil .nil))) (.node (f25 P) (.node (f41 P) (.node (f73 P) (.node (f137 P) .nil .nil) .nil) (.node (f105 P) .nil .nil)) (.node (f57 P) (.node (s18_89 P) (.node (s18_153 P) .nil .nil) .nil) (.node (f121 P) .nil .nil)))) (.node (f13 P) (.node (f21 P) (.node (f37 P) (.node (f69 P) (.node (f133 P) .nil .nil) .nil) (.node (f101 P) .nil .nil)) (.node (f53 P) (.node (f85 P) (.node (f149 P) .nil .nil) .nil) (.node (f117 P) .nil .nil))) (.node (f29 P) (.node (f45 P) (.node (f77 P) (.node (f141 P) .nil .nil) .nil) (.node (f109 P) .nil .nil)) (.node (f61 P) (.node (f93 P) .nil .nil) (.node (f125 P) .nil .nil)))))) (.node (f2 P) (.node (f4 P) (.node (f8 P) (.node (f16 P) (.node (f32 P) (.node (f64 P) (.node (f128 P) .nil .nil) .nil) (.node (f96 P) .nil .nil)) (.node (f48 P) (.node (f80 P) (.node (f144 P) .nil .nil) .nil) (.node (f112 P) .nil .nil))) (.node (f24 P) (.node (s18_40 P) (.node (f72 P) (.node (f136 P) .nil .nil) .nil) (.node (f104 P) .nil .nil)) (.node (f56 P) (.node (f88 P) (.node (f152 P) .nil .nil) .nil) (.node (f120 P) .nil .nil)))) (.node (f12 P) (.node (f20 P) (.node (f36 P) (.node (f68 P) (.node (f132 P) .nil .nil) .nil) (.node (f100 P) .nil .nil)) (.node (f52 P) (.node (f84 P) (.node (f148 P) .nil .nil) .nil) (.node (f116 P) .nil .nil))) (.node (f28 P) (.node (f44 P) (.node (f76 P) (.node (f140 P) .nil .nil) .nil) (.node (f108 P) .nil .nil)) (.node (f60 P) (.node (f92 P) .nil .nil) (.node (f124 P) .nil .nil))))) (.node (f6 P) (.node (f10 P) (.node (f18 P) (.node (f34 P) (.node (f66 P) (.node (f130 P) .nil .nil) .nil) (.node (f98 P) .nil .nil)) (.node (f50 P) (.node (f82 P) (.node (f146 P) .nil .nil) .nil) (.node (f114 P) .nil .nil))) (.node (f26 P) (.node (f42 P) (.node (f74 P) (.node (f138 P) .nil .nil) .nil) (.node (f106 P) .nil .nil)) (.node (f58 P) (.node (f90 P) (.node (f154 P) .nil .nil) .nil) (.node (f122 P) .nil .nil)))) (.node (f14 P) (.node (f22 P) (.node (f38 P) (.node (f70 P) (.node (f134 P) .nil .nil) .nil) (.node (f102 P) .nil .nil)) (.node (f54 P) (.node (f86 P) (.node (f150 P) .nil .nil) .nil) (.node (f118 P) .nil .nil))) (.node (f30 P) (.node (f46 P) (.node (f78 P) (.node (f142 P) .nil .nil) .nil) (.node (f110 P) .nil .nil)) (.node (f62 P) (.node (f94 P) .nil .nil) (.node (f126 P) .nil .nil)))))))
noncomputable def tree_s22 (P : Params) : BT := (.node (f0 P) (.node (f1 P) (.node (s22_3 P) (.node (f7 P) (.node (f15 P) (.node (f31 P) (.node (f63 P) (.node (f127 P) .nil .nil) (.node (f191 P) .nil .nil)) (.node (f95 P) (.node (f159 P) .nil .nil) .nil)) (.node (f47 P) (.node (f79 P) (.node (f143 P) .nil .nil) (.node (f207 P) .nil .nil)) (.node (f111 P) (.node (f175 P) .nil .nil) .nil))) (.node (f23 P) (.node (f39 P) (.node (f71 P) (.node (f135 P) .nil .nil) (.node (f199 P) .nil .nil)) (.node (f103 P) (.node (f167 P) .nil .nil) .nil)) (.node (f55 P) (.node (f87 P) (.node (f151 P) .nil .nil) (.node (f215 P) .nil .nil)) (.node (f119 P) (.node (f183 P) .nil .nil) .nil)))) (.node (f11 P) (.node (f19 P) (.node (f35 P) (.node (f67 P) (.node (f131 P) .nil .nil) (.node (f195 P) .nil .nil)) (.node (f99 P) (.node (f163 P) .nil .nil) .nil)) (.node (f51 P) (.node (f83 P) (.node (f147 P) .nil .nil) (.node (f211 P) .nil .nil)) (.node (f115 P) (.node (f179 P) .nil .nil) .nil))) (.node (f27 P) (.node (f43 P) (.node (f75 P) (.node (f139 P) .nil .nil) (.node (f203 P) .nil .nil)) (.node (f107 P) (.node (f171 P) .nil .nil) .nil)) (.node (f59 P) (.node (f91 P) (.node (f155 P) .nil .nil) (.node (f219 P) .nil .nil)) (.node (f123 P) (.node (f187 P) .nil .nil) .nil))))) (.node (f5 P) (.node (f9 P) (.node (f17 P) (.node (f33 P) (.node (f65 P) (.node (f129 P) .nil .nil) (.node (f193 P) .nil .nil)) (.node (f97 P) (.node (f161 P) .nil .nil) .nil)) (.node (f49 P) (.node (f81 P) (.node (f145 P) .nil .nil) (.node (f209 P) .nil .nil)) (.node (f113 P) (.node (f177 P) .nil .nil) .nil))) (.node (f25 P) (.node (f41 P) (.node (f73 P) (.node (f137 P) .nil .nil) (.node (f201 P) .nil .nil)) (.node (f105 P) (.node (f169 P) .nil .nil) .nil)) (.node (f57 P) (.node (f89 P) (.node (f153 P) .nil .nil) (.node (f217 P) .nil .nil)) (.node (f121 P) (.node (f185 P) .nil .nil) .nil)))) (.node (f13 P) (.node (f21 P) (.node (f37 P) (.node (f69 P) (.node (f133 P) .nil .nil) (.node (f197 P) .nil .nil)) (.node (f101 P) (.node (f165 P) .nil .nil) .nil)) (.node (f53 P) (.node (f85 P) (.node (f149 P) .nil .nil) (.node (f213 P) .nil .nil)) (.node (f117 P) (.node (f181 P) .nil .nil) .nil))) (.node (f29 P) (.node (f45 P) (.node (f77 P) (.node (f141 P) .nil .nil) (.node (f205 P) .nil .nil)) (.node (f109 P) (.node (f173 P) .nil .nil) .nil)) (.node (f61 P) (.node (f93 P) (.node (f157 P) .nil .nil) .nil) (.node (f125 P) (.node (f189 P) .nil .nil) .nil)))))) (.node (f2 P) (.node (f4 P) (.node (f8 P) (.node (f16 P) (.node (f32 P) (.node (f64 P) (.node (f128 P) .nil .nil) (.node (f192 P) .nil .nil)) (.node (f96 P) (.node (f160 P) .nil .nil) .nil)) (.node (f48 P) (.node (f80 P) (.node (f144 P) .nil .nil) (.node (f208 P) .nil .nil)) (.node (f112 P) (.node (f176 P) .nil .nil) .nil))) (.node (f24 P) (.node (s22_40 P) (.node (f72 P) (.node (f136 P) .nil .nil) (.node (f200 P) .nil .nil)) (.node (f104 P) (.node (f168 P) .nil .nil) .nil)) (.node (f56 P) (.node (f88 P) (.node (f152 P) .nil .nil) (.node (f216 P) .nil .nil)) (.node (f120 P) (.node (f184 P) .nil .nil) .nil)))) (.node (f12 P) (.node (f20 P) (.node (f36 P) (.node (f68 P) (.node (f132 P) .nil .nil) (.node (f196 P) .nil .nil)) (.node (f100 P) (.node (f164 P) .nil .nil) .nil)) (.node (f52 P) (.node (f84 P) (.node (f148 P) .nil .nil) (.node (f212 P) .nil .nil)) (.node (f116 P) (.node (f180 P) .nil .nil) .nil))) (.node (f28 P) (.node (f44 P) (.node (f76 P) (.node (f140 P) .nil .nil) (.node (f204 P) .nil .nil)) (.node (f108 P) (.node (f172 P) .nil .nil) .nil)) (.node (f60 P) (.node (f92 P) (.node (f156 P) .nil .nil) (.node (f220 P) .nil .nil)) (.node (f124 P) (.node (f188 P) .nil .nil) .nil))))) (.node (f6 P) (.node (f10 P) (.node (f18 P) (.node (f34 P) (.node (f66 P) (.node (f130 P) .nil .nil) (.node (f194 P) .nil .nil)) (.node (f98 P) (.node (f162 P) .nil .nil) .nil)) (.node (f50 P) (.node (f82 P) (.node (f146 P) .nil .nil) (.node (f210 P) .nil .nil)) (.node (f114 P) (.node (f178 P) .nil .nil) .nil))) (.node (f26 P) (.node (f42 P) (.node (f74 P) (.node (f138 P) .nil .nil) (.node (f202 P) .nil .nil)) (.node (f106 P) (.node (f170 P) .nil .nil) .nil)) (.node (f58 P) (.node (f90 P) (.node (f154 P) .nil .nil) (.node (f218 P) .nil .nil)) (.node (f122 P) (.node (f186 P) .nil .nil) .nil)))) (.node (f14 P) (.node (f22 P) (.node (f38 P) (.node (f70 P) (.node (f134 P) .nil .nil) (.node (f198 P) .nil .nil)) (.node (f102 P) (.node (f166 P) .nil .nil) .nil)) (.node (f54 P) (.node (f86 P) (.node (f150 P) .nil .nil) (.node (f214 P) .nil .nil)) (.node (f118 P) (.node (f182 P) .nil .nil) .nil))) (.node (f30 P) (.node (f46 P) (.node (f78 P) (.node (f142 P) .nil .nil) (.node (f206 P) .nil .nil)) (.node (f110 P) (.node (f174 P) .nil .nil) .nil)) (.node (f62 P) (.node (f94 P) (.node (f158 P) .nil .nil) .nil) (.node (f126 P) (.node (f190 P) .nil .nil) .nil)))))))
noncomputable def tree_s23 (P : Params) : BT := (.node (f0 P) (.node (f1 P) (.node (s23_3 P) (.node (f7 P) (.node (f15 P) (.node (f31 P) (.node (f63 P) (.node (f127 P) .nil .nil) (.node (f191 P) .nil .nil)) (.node (f95 P) (.node (f159 P) .nil .nil) (.node (f223 P) .nil .nil))) (.node (f47 P) (.node (f79 P) (.node (f143 P) .nil .nil) (.node (f207 P) .nil .nil)) (.node (f111 P) (.node (f175 P) .nil .nil) .nil))) (.node (f23 P) (.node (f39 P) (.node (f71 P) (.node (f135 P) .nil .nil) (.node (f199 P) .nil .nil)) (.node (f103 P) (.node (f167 P) .nil .nil) (.node (f231 P) .nil .nil))) (.node (f55 P) (.node (f87 P) (.node (f151 P) .nil .nil) (.node (f215 P) .nil .nil)) (.node (f119 P) (.node (f183 P) .nil .nil) .nil)))) (.node (f11 P) (.node (f19 P) (.node (f35 P) (.node (f67 P) (.node (f131 P) .nil .nil) (.node (f195 P) .nil .nil)) (.node (f99 P) (.node (f163 P) .nil .nil) (.node (f227 P) .nil .nil))) (.node (f51 P) (.node (f83 P) (.node (f147 P) .nil .nil) (.node (f211 P) .nil .nil)) (.node (f115 P) (.node (f179 P) .nil .nil) .nil))) (.node (f27 P) (.node (f43 P) (.node (f75 P) (.node (f139 P) .nil .nil) (.node (f203 P) .nil .nil)) (.node (f107 P) (.node (f171 P) .nil .nil) .nil)) (.node (f59 P) (.node (f91 P) (.node (f155 P) .nil .nil) (.node (f219 P) .nil .nil)) (.node (f123 P) (.node (f187 P) .nil .nil) .nil))))) (.node (f5 P) (.node (f9 P) (.node (f17 P) (.node (f33 P) (.node (f65 P) (.node (f129 P) .nil .nil) (.node (f193 P) .nil .nil)) (.node (f97 P) (.node (f161 P) .nil .nil) (.node (f225 P) .nil .nil))) (.node (f49 P) (.node (f81 P) (.node (f145 P) .nil .nil) (.node (f209 P) .nil .nil)) (.node (f113 P) (.node (f177 P) .nil .nil) .nil))) (.node (f25 P) (.node (f41 P) (.node (f73 P) (.node (f137 P) .nil .nil) (.node (f201 P) .nil .nil)) (.node (f105 P) (.node (f169 P) .nil .nil) (.node (f233 P) .nil .nil))) (.node (f57 P) (.node (f89 P) (.node (f153 P) .nil .nil) (.node (f217 P) .nil .nil)) (.node (f121 P) (.node (f185 P) .nil .nil) .nil)))) (.node (f13 P) (.node (f21 P) (.node (f37 P) (.node (f69 P) (.node (f133 P) .nil .nil) (.node (f197 P) .nil .nil)) (.node (f101 P) (.node (f165 P) .nil .nil) (.node (f229 P) .nil .nil))) (.node (f53 P) (.node (f85 P) (.node (f149 P) .nil .nil) (.node (f213 P) .nil .nil)) (.node (f117 P) (.node (f181 P) .nil .nil) .nil))) (.node (f29 P) (.node (f45 P) (.node (f77 P) (.node (f141 P) .nil .nil) (.node (f205 P) .nil .nil)) (.node (f109 P) (.node (f173 P) .nil .nil) .nil)) (.node (f61 P) (.node (f93 P) (.node (f157 P) .nil .nil) (.node (f221 P) .nil .nil)) (.node (f125 P) (.node (f189 P) .nil .nil) .nil)))))) (.node (f2 P) (.node (f4 P) (.node (f8 P) (.node (f16 P) (.node (f32 P) (.node (f64 P) (.node (f128 P) .nil .nil) (.node (f192 P) .nil .nil)) (.node (f96 P) (.node (f160 P) .nil .nil) (.node (f224 P) .nil .nil))) (.node (f48 P) (.node (f80 P) (.node (f144 P) .nil .nil) (.node (f208 P) .nil .nil)) (.node (f112 P) (.node (f176 P) .nil .nil) .nil))) (.node (f24 P) (.node (s23_40 P) (.node (f72 P) (.node (f136 P) .nil .nil) (.node (f200 P) .nil .nil)) (.node (f104 P) (.node (f168 P) .nil .nil) (.node (f232 P) .nil .nil))) (.node (f56 P) (.node (f88 P) (.node (f152 P) .nil .nil) (.node (f216 P) .nil .nil)) (.node (f120 P) (.node (f184 P) .nil .nil) .nil)))) (.node (f12 P) (.node (f20 P) (.node (f36 P) (.node (f68 P) (.node (f132 P) .nil .nil) (.node (f196 P) .nil .nil)) (.node (f100 P) (.node (f164 P) .nil .nil) (.node (f228 P) .nil .nil))) (.node (f52 P) (.node (f84 P) (.node (f148 P) .nil .nil) (.node (f212 P) .nil .nil)) (.node (f116 P) (.node (f180 P) .nil .nil) .nil))) (.node (f28 P) (.node (f44 P) (.node (f76 P) (.node (f140 P) .nil .nil) (.node (f204 P) .nil .nil)) (.node (f108 P) (.node (f172 P) .nil .nil) .nil)) (.node (f60 P) (.node (f92 P) (.node (f156 P) .nil .nil) (.node (f220 P) .nil .nil)) (.node (f124 P) (.node (f188 P) .nil .nil) .nil))))) (.node (f6 P) (.node (f10 P) (.node (f18 P) (.node (f34 P) (.node (f66 P) (.node (f130 P) .nil .nil) (.node (f194 P) .nil .nil)) (.node (f98 P) (.node (f162 P) .nil .nil) (.node (f226 P) .nil .nil))) (.node (f50 P) (.node (f82 P) (.node (f146 P) .nil .nil) (.node (f210 P) .nil .nil)) (.node (f114 P) (.node (f178 P) .nil .nil) .nil))) (.node (f26 P) (.node (f42 P) (.node (f74 P) (.node (f138 P) .nil .nil) (.node (f202 P) .nil .nil)) (.node (f106 P) (.node (f170 P) .nil .nil) .nil)) (.node (f58 P) (.node (f90 P) (.node (f154 P) .nil .nil) (.node (f218 P) .nil .nil)) (.node (f122 P) (.node (f186 P) .nil .nil) .nil)))) (.node (f14 P) (.node (f22 P) (.node (f38 P) (.node (f70 P) (.node (f134 P) .nil .nil) (.node (f198 P) .nil .nil)) (.node (f102 P) (.node (f166 P) .nil .nil) (.node (f230 P) .nil .nil))) (.node (f54 P) (.node (f86 P) (.node (f150 P) .nil .nil) (.node (f214 P) .nil .nil)) (.node (f118 P) (.node (f182 P) .nil .nil) .nil))) (.node (f30 P) (.node (f46 P) (.node (f78 P) (.node (f142 P) .nil .nil) (.node (f206 P) .nil .nil)) (.node (f110 P) (.node (f174 P) .nil .nil) .nil)) (.node (f62 P) (.node (f94 P) (.node (f158 P) .nil .nil) (.node (f222 P) .nil .nil)) (.node (f126 P) (.node (f190 P) .nil .nil) .nil)))))))
noncomputable def tree_s32 (P : Params) : BT := (.node (f0 P) (.node (f1 P) (.node (s32_3 P) (.node (f7 P) (.node (f15 P) (.node (f31 P) (.node (f63 P) (.node (f127 P) (.node (f255 P) .nil .nil) .nil) (.node (f191 P) .nil .nil)) (.node (f95 P) (.node (f159 P) (.node (f287 P) .nil .nil) .nil) (.node (f223 P) .nil .nil))) (.node (f47 P) (.node (f79 P) (.node (f143 P) (.node (f271 P) .nil .nil) .nil) (.node (f207 P) .nil .nil)) (.node (f111 P) (.node (f175 P) .nil .nil) (.node (f239 P) .nil .nil)))) (.node (f23 P) (.node (f39 P) (.node (f71 P) (.node (f135 P) (.node (f263 P) .nil .nil) .nil) (.node (f199 P) .nil .nil)) (.node (f103 P) (.node (f167 P) (.node (f295 P) .nil .nil) .nil) (.node (f231 P) .nil .nil))) (.node (f55 P) (.node (f87 P) (.node (f151 P) (.node (f279 P) .nil .nil) .nil) (.node (f215 P) .nil .nil)) (.node (f119 P) (.node (f183 P) .nil .nil) (.node (f247 P) .nil .nil))))) (.node (f11 P) (.node (f19 P) (.node (f35 P) (.node (f67 P) (.node (f131 P) (.node (f259 P) .nil .nil) .nil) (.node (f195 P) .nil .nil)) (.node (f99 P) (.node (f163 P) (.node (f291 P) .nil .nil) .nil) (.node (f227 P) .nil .nil))) (.node (f51 P) (.node (f83 P) (.node (f147 P) (.node (f275 P) .nil .nil) .nil) (.node (f211 P) .nil .nil)) (.node (f115 P) (.node (f179 P) .nil .nil) (.node (f243 P) .nil .nil)))) (.node (f27 P) (.node (f43 P) (.node (f75 P) (.node (f139 P) (.node (f267 P) .nil .nil) .nil) (.node (f203 P) .nil .nil)) (.node (f107 P) (.node (f171 P) .nil .nil) (.node (f235 P) .nil .nil))) (.node (f59 P) (.node (f91 P) (.node (f155 P) (.node (f283 P) .nil .nil) .nil) (.node (f219 P) .nil .nil)) (.node (f123 P) (.node (f187 P) .nil .nil) (.node (f251 P) .nil .nil)))))) (.node (f5 P) (.node (f9 P) (.node (f17 P) (.node (f33 P) (.node (f65 P) (.node (f129 P) (.node (f257 P) .nil .nil) .nil) (.node (f193 P) .nil .nil)) (.node (f97 P) (.node (f161 P) (.node (f289 P) .nil .nil) .nil) (.node (f225 P) .nil .nil))) (.node (f49 P) (.node (f81 P) (.node (f145 P) (.node (f273 P) .nil .nil) .nil) (.node (f209 P) .nil .nil)) (.node (f113 P) (.node (f177 P) .nil .nil) (.node (f241 P) .nil .nil)))) (.node (f25 P) (.node (f41 P) (.node (f73 P) (.node (f137 P) (.node (f265 P) .nil .nil) .nil) (.node (f201 P) .nil .nil)) (.node (f105 P) (.node (f169 P) .nil .nil) (.node (f233 P) .nil .nil))) (.node (f57 P) (.node (f89 P) (.node (f153 P) (.node (f281 P) .nil .nil) .nil) (.node (f217 P) .nil .nil)) (.node (f121 P) (.node (f185 P) .nil .nil) (.node (f249 P) .nil .nil))))) (.node (f13 P) (.node (f21 P) (.node (f37 P) (.node (f69 P) (.node (f133 P) (.node (f261 P) .nil .nil) .nil) (.node (f197 P) .nil .nil)) (.node (f101 P) (.node (f165 P) (.node (f293 P) .nil .nil) .nil) (.node (f229 P) .nil .nil))) (.node (f53 P) (.node (f85 P) (.node (f149 P) (.node (f277 P) .nil .nil) .nil) (.node (f213 P) .nil .nil)) (.node (f117 P) (.node (f181 P) .nil .nil) (.node (f245 P) .nil .nil)))) (.node (f29 P) (.node (f45 P) (.node (f77 P) (.node (f141 P) (.node (f269 P) .nil .nil) .nil) (.node (f205 P) .nil .nil)) (.node (f109 P) (.node (f173 P) .nil .nil) (.node (f237 P) .nil .nil))) (.node (f61 P) (.node (f93 P) (.node (f157 P) (.node (f285 P) .nil .nil) .nil) (.node (f221 P) .nil .nil)) (.node (f125 P) (.node (f189 P) .nil .nil) (.node (f253 P) .nil .nil))))))) (.node (f2 P) (.node (f4 P) (.node (f8 P) (.node (f16 P) (.node (f32 P) (.node (f64 P) (.node (f128 P) (.node (f256 P) .nil .nil) .nil) (.node (f192 P) .nil .nil)) (.node (f96 P) (.node (f160 P) (.node (f288 P) .nil .nil) .nil) (.node (f224 P) .nil .nil))) (.node (f48 P) (.node (f80 P) (.node (f144 P) (.node (f272 P) .nil .nil) .nil) (.node (f208 P) .nil .nil)) (.node (f112 P) (.node (f176 P) .nil .nil) (.node (f240 P) .nil .nil)))) (.node (f24 P) (.node (s32_40 P) (.node (f72 P) (.node (f136 P) (.node (f264 P) .nil .nil) .nil) (.node (f200 P) .nil .nil)) (.node (f104 P) (.node (f168 P) .nil .nil) (.node (f232 P) .nil .nil))) (.node (f56 P) (.node (f88 P) (.node (f152 P) (.node (f280 P) .nil .nil) .nil) (.node (f216 P) .nil .nil)) (.node (f120 P) (.node (f184 P) .nil .nil) (.node (f248 P) .nil .nil))))) (.node (f12 P) (.node (f20 P) (.node (f36 P) (.node (f68 P) (.node (f132 P) (.node (f260 P) .nil .nil) .nil) (.node (f196 P) .nil .nil)) (.node (f100 P) (.node (f164 P) (.node (f292 P) .nil .nil) .nil) (.node (f228 P) .nil .nil))) (.node (f52 P) (.node (f84 P) (.node (f148 P) (.node (f276 P) .nil .nil) .nil) (.node (f212 P) .nil .nil)) (.node (f116 P) (.node (f180 P) .nil .nil) (.node (f244 P) .nil .nil)))) (.node (f28 P) (.node (f44 P) (.node (f76 P) (.node (f140 P) (.node (f268 P) .nil .nil) .nil) (.node (f204 P) .nil .nil)) (.node (f108 P) (.node (f172 P) .nil .nil) (.node (f236 P) .nil .nil))) (.node (f60 P) (.node (f92 P) (.node (f156 P) (.node (f284 P) .nil .nil) .nil) (.node (f220 P) .nil .nil)) (.node (f124 P) (.node (f188 P) .nil .nil) (.node (f252 P) .nil .nil)))))) (.node (f6 P) (.node (f10 P) (.node (f18 P) (.node (f34 P) (.node (f66 P) (.node (f130 P) (.node (f258 P) .nil .nil) .nil) (.node (f194 P) .nil .nil)) (.node (f98 P) (.node (f162 P) (.node (f290 P) .nil .nil) .nil) (.node (f226 P) .nil .nil))) (.node (f50 P) (.node (f82 P) (.node (f146 P) (.node (f274 P) .nil .nil) .nil) (.node (f210 P) .nil .nil)) (.node (f114 P) (.node (f178 P) .nil .nil) (.node (f242 P) .nil .nil)))) (.node (f26 P) (.node (f42 P) (.node (f74 P) (.node (f138 P) (.node (f266 P) .nil .nil) .nil) (.node (f202 P) .nil .nil)) (.node (f106 P) (.node (f170 P) .nil .nil) (.node (f234 P) .nil .nil))) (.node (f58 P) (.node (f90 P) (.node (f154 P) (.node (f282 P) .nil .nil) .nil) (.node (f218 P) .nil .nil)) (.node (f122 P) (.node (f186 P) .nil .nil) (.node (f250 P) .nil .nil))))) (.node (f14 P) (.node (f22 P) (.node (f38 P) (.node (f70 P) (.node (f134 P) (.node (f262 P) .nil .nil) .nil) (.node (f198 P) .nil .nil)) (.node (f102 P) (.node (f166 P) (.node (f294 P) .nil .nil) .nil) (.node (f230 P) .nil .nil))) (.node (f54 P) (.node (f86 P) (.node (f150 P) (.node (f278 P) .nil .nil) .nil) (.node (f214 P) .nil .nil)) (.node (f118 P) (.node (f182 P) .nil .nil) (.node (f246 P) .nil .nil)))) (.node (f30 P) (.node (f46 P) (.node (f78 P) (.node (f142 P) (.node (f270 P) .nil .nil) .nil) (.node (f206 P) .nil .nil)) (.node (f110 P) (.node (f174 P) .nil .nil) (.node (f238 P) .nil .nil))) (.node (f62 P) (.node (f94 P) (.node (f158 P) (.node (f286 P) .nil .nil) .nil) (.node (f222 P) .nil .nil)) (.node (f126 P) (.node (f190 P) .nil .nil) (.node (f254 P) .nil .nil))))))))
noncomputable def tree_s33 (P : Params) : BT := (.node (f0 P) (.node (f1 P) (.node (s33_3 P) (.node (f7 P) (.node (f15 P) (.node (f31 P) (.node (f63 P) (.node (f127 P) (.node (f255 P) .nil .nil) .nil) (.node (f191 P) (.node (f319 P) .nil .nil) .nil)) (.node (f95 P) (.node (f159 P) (.node (f287 P) .nil .nil) .nil) (.node (f223 P) (.node (f351 P) .nil .nil) .nil))) (.node (f47 P) (.node (f79 P) (.node (f143 P) (.node (f271 P) .nil .nil) .nil) (.node (f207 P) (.node (f335 P) .nil .nil) .nil)) (.node (f111 P) (.node (f175 P) (.node (f303 P) .nil .nil) .nil) (.node (f239 P) .nil .nil)))) (.node (f23 P) (.node (f39 P) (.node (f71 P) (.node (f135 P) (.node (f263 P) .nil .nil) .nil) (.node (f199 P) (.node (f327 P) .nil .nil) .nil)) (.node (f103 P) (.node (f167 P) (.node (f295 P) .nil .nil) .nil) (.node (f231 P) (.node (f359 P) .nil .nil) .nil))) (.node (f55 P) (.node (f87 P) (.node (f151 P) (.node (f279 P) .nil .nil) .nil) (.node (f215 P) (.node (f343 P) .nil .nil) .nil)) (.node (f119 P) (.node (f183 P) (.node (f311 P) .nil .nil) .nil) (.node (f247 P) .nil .nil))))) (.node (f11 P) (.node (f19 P) (.node (f35 P) (.node (f67 P) (.node (f131 P) (.node (f259 P) .nil .nil) .nil) (.node (f195 P) (.node (f323 P) .nil .nil) .nil)) (.node (f99 P) (.node (f163 P) (.node (f291 P) .nil .nil) .nil) (.node (f227 P) (.node (f355 P) .nil .nil) .nil))) (.node (f51 P) (.node (f83 P) (.node (f147 P) (.node (f275 P) .nil .nil) .nil) (.node (f211 P) (.node (f339 P) .nil .nil) .nil)) (.node (f115 P) (.node (f179 P) (.node (f307 P) .nil .nil) .nil) (.node (f243 P) .nil .nil)))) (.node (f27 P) (.node (f43 P) (.node (f75 P) (.node (f139 P) (.node (f267 P) .nil .nil) .nil) (.node (f203 P) (.node (f331 P) .nil .nil) .nil)) (.node (f107 P) (.node (f171 P) (.node (f299 P) .nil .nil) .nil) (.node (f235 P) .nil .nil))) (.node (f59 P) (.node (f91 P) (.node (f155 P) (.node (f283 P) .nil .nil) .nil) (.node (f219 P) (.node (f347 P) .nil .nil) .nil)) (.node (f123 P) (.node (f187 P) (.node (f315 P) .nil .nil) .nil) (.node (f251 P) .nil .nil)))))) (.node (f5 P) (.node (f9 P) (.node (f17 P) (.node (f33 P) (.node (f65 P) (.node (f129 P) (.node (f257 P) .nil .nil) .nil) (.node (f193 P) (.node (f321 P) .nil .nil) .nil)) (.node (f97 P) (.node (f161 P) (.node (f289 P) .nil .nil) .nil) (.node (f225 P) (.node (f353 P) .nil .nil) .nil))) (.node (f49 P) (.node (f81 P) (.node (f145 P) (.node (f273 P) .nil .nil) .nil) (.node (f209 P) (.node (f337 P) .nil .nil) .nil)) (.node (f113 P) (.node (f177 P) (.node (f305 P) .nil .nil) .nil) (.node (f241 P) .nil .nil)))) (.node (f25 P) (.node (f41 P) (.node (f73 P) (.node (f137 P) (.node (f265 P) .nil .nil) .nil) (.node (f201 P) (.node (f329 P) .nil .nil) .nil)) (.node (f105 P) (.node (f169 P) (.node (f297 P) .nil .nil) .nil) (.node (f233 P) .nil .nil))) (.node (f57 P) (.node (f89 P) (.node (f153 P) (.node (f281 P) .nil .nil) .nil) (.node (f217 P) (.node (f345 P) .nil .nil) .nil)) (.node (f121 P) (.node (f185 P) (.node (f313 P) .nil .nil) .nil) (.node (f249 P) .nil .nil))))) (.node (f13 P) (.node (f21 P) (.node (f37 P) (.node (f69 P) (.node (f133 P) (.node (f261 P) .nil .nil) .nil) (.node (f197 P) (.node (f325 P) .nil .nil) .nil)) (.node (f101 P) (.node (f165 P) (.node (f293 P) .nil .nil) .nil) (.node (f229 P) (.node (f357 P) .nil .nil) .nil))) (.node (f53 P) (.node (f85 P) (.node (f149 P) (.node (f277 P) .nil .nil) .nil) (.node (f213 P) (.node (f341 P) .nil .nil) .nil)) (.node (f117 P) (.node (f181 P) (.node (f309 P) .nil .nil) .nil) (.node (f245 P) .nil .nil)))) (.node (f29 P) (.node (f45 P) (.node (f77 P) (.node (f141 P) (.node (f269 P) .nil .nil) .nil) (.node (f205 P) (.node (f333 P) .nil .nil) .nil)) (.node (f109 P) (.node (f173 P) (.node (f301 P) .nil .nil) .nil) (.node (f237 P) .nil .nil))) (.node (f61 P) (.node (f93 P) (.node (f157 P) (.node (f285 P) .nil .nil) .nil) (.node (f221 P) (.node (f349 P) .nil .nil) .nil)) (.node (f125 P) (.node (f189 P) (.node (f317 P) .nil .nil) .nil) (.node (f253 P) .nil .nil))))))) (.node (f2 P) (.node (f4 P) (.node (f8 P) (.node (f16 P) (.node (f32 P) (.node (f64 P) (.node (f128 P) (.node (f256 P) .nil .nil) .nil) (.node (f192 P) (.node (f320 P) .nil .nil) .nil)) (.node (f96 P) (.node (f160 P) (.node (f288 P) .nil .nil) .nil) (.node (f224 P) (.node (f352 P) .nil .nil) .nil))) (.node (f48 P) (.node (f80 P) (.node (f144 P) (.node (f272 P) .nil .nil) .nil) (.node (f208 P) (.node (f336 P) .nil .nil) .nil)) (.node (f112 P) (.node (f176 P) (.node (f304 P) .nil .nil) .nil) (.node (f240 P) .nil .nil)))) (.node (f24 P) (.node (s33_40 P) (.node (f72 P) (.node (f136 P) (.node (f264 P) .nil .nil) .nil) (.node (f200 P) (.node (f328 P) .nil .nil) .nil)) (.node (f104 P) (.node (f168 P) (.node (f296 P) .nil .nil) .nil) (.node (f232 P) .nil .nil))) (.node (f56 P) (.node (f88 P) (.node (f152 P) (.node (f280 P) .nil .nil) .nil) (.node (f216 P) (.node (f344 P) .nil .nil) .nil)) (.node (f120 P) (.node (f184 P) (.node (f312 P) .nil .nil) .nil) (.node (f248 P) .nil .nil))))) (.node (f12 P) (.node (f20 P) (.node (f36 P) (.node (f68 P) (.node (f132 P) (.node (f260 P) .nil .nil) .nil) (.node (f196 P) (.node (f324 P) .nil .nil) .nil)) (.node (f100 P) (.node (f164 P) (.node (f292 P) .nil .nil) .nil) (.node (f228 P) (.node (f356 P) .nil .nil) .nil))) (.node (f52 P) (.node (f84 P) (.node (f148 P) (.node (f276 P) .nil .nil) .nil) (.node (f212 P) (.node (f340 P) .nil .nil) .nil)) (.node (f116 P) (.node (f180 P) (.node (f308 P) .nil .nil) .nil) (.node (f244 P) .nil .nil)))) (.node (f28 P) (.node (f44 P) (.node (f76 P) (.node (f140 P) (.node (f268 P) .nil .nil) .nil) (.node (f204 P) (.node (f332 P) .nil .nil) .nil)) (.node (f108 P) (.node (f172 P) (.node (f300 P) .nil .nil) .nil) (.node (f236 P) .nil .nil))) (.node (f60 P) (.node (f92 P) (.node (f156 P) (.node (f284 P) .nil .nil) .nil) (.node (f220 P) (.node (f348 P) .nil .nil) .nil)) (.node (f124 P) (.node (f188 P) (.node (f316 P) .nil .nil) .nil) (.node (f252 P) .nil .nil)))))) (.node (f6 P) (.node (f10 P) (.node (f18 P) (.node (f34 P) (.node (f66 P) (.node (f130 P) (.node (f258 P) .nil .nil) .nil) (.node (f194 P) (.node (f322 P) .nil .nil) .nil)) (.node (f98 P) (.node (f162 P) (.node (f290 P) .nil .nil) .nil) (.node (f226 P) (.node (f354 P) .nil .nil) .nil))) (.node (f50 P) (.node (f82 P) (.node (f146 P) (.node (f274 P) .nil .nil) .nil) (.node (f210 P) (.node (f338 P) .nil .nil) .nil)) (.node (f114 P) (.node (f178 P) (.node (f306 P) .nil .nil) .nil) (.node (f242 P) .nil .nil)))) (.node (f26 P) (.node (f42 P) (.node (f74 P) (.node (f138 P) (.node (f266 P) .nil .nil) .nil) (.node (f202 P) (.node (f330 P) .nil .nil) .nil)) (.node (f106 P) (.node (f170 P) (.node (f298 P) .nil .nil) .nil) (.node (f234 P) .nil .nil))) (.node (f58 P) (.node (f90 P) (.node (f154 P) (.node (f282 P) .nil .nil) .nil) (.node (f218 P) (.node (f346 P) .nil .nil) .nil)) (.node (f122 P) (.node (f186 P) (.node (f314 P) .nil .nil) .nil) (.node (f250 P) .nil .nil))))) (.node (f14 P) (.node (f22 P) (.node (f38 P) (.node (f70 P) (.node (f134 P) (.node (f262 P) .nil .nil) .nil) (.node (f198 P) (.node (f326 P) .nil .nil) .nil)) (.node (f102 P) (.node (f166 P) (.node (f294 P) .nil .nil) .nil) (.node (f230 P) (.node (f358 P) .nil .nil) .nil))) (.node (f54 P) (.node (f86 P) (.node (f150 P) (.node (f278 P) .nil .nil) .nil) (.node (f214 P) (.node (f342 P) .nil .nil) .nil)) (.node (f118 P) (.node (f182 P) (.node (f310 P) .nil .nil) .nil) (.node (f246 P) .nil .nil)))) (.node (f30 P) (.node (f46 P) (.node (f78 P) (.node (f142 P) (.node (f270 P) .nil .nil) .nil) (.node (f206 P) (.node (f334 P) .nil .nil) .nil)) (.node (f110 P) (.node (f174 P) (.node (f302 P) .nil .nil) .nil) (.node (f238 P) .nil .nil))) (.node (f62 P) (.node (f94 P) (.node (f158 P) (.node (f286 P) .nil .nil) .nil) (.node (f222 P) (.node (f350 P) .nil .nil) .nil)) (.node (f126 P) (.node (f190 P) (.node (f318 P) .nil .nil) .nil) (.node (f254 P) .nil .nil))))))))
noncomputable def tree_s40 (P : Params) : BT := (.node (f0 P) (.node (f1 P) (.node (s40_3 P) (.node (f7 P) (.node (f15 P) (.node (f31 P) (.node (f63 P) (.node (f127 P) (.node (f255 P) .nil .nil) (.node (f383 P) .nil .nil)) (.node (f191 P) (.node (f319 P) .nil .nil) .nil)) (.node (f95 P) (.node (f159 P) (.node (f287 P) .nil .nil) .nil) (.node (f223 P) (.node (f351 P) .nil .nil) .nil))) (.node (f47 P) (.node (f79 P) (.node (f143 P) (.node (f271 P) .nil .nil) (.node (f399 P) .nil .nil)) (.node (f207 P) (.node (f335 P) .nil .nil) .nil)) (.node (f111 P) (.node (f175 P) (.node (f303 P) .nil .nil) .nil) (.node (f239 P) (.node (f367 P) .nil .nil) .nil)))) (.node (f23 P) (.node (f39 P) (.node (f71 P) (.node (f135 P) (.node (f263 P) .nil .nil) (.node (f391 P) .nil .nil)) (.node (f199 P) (.node (f327 P) .nil .nil) .nil)) (.node (f103 P) (.node (f167 P) (.node (f295 P) .nil .nil) .nil) (.node (f231 P) (.node (f359 P) .nil .nil) .nil))) (.node (f55 P) (.node (f87 P) (.node (f151 P) (.node (f279 P) .nil .nil) .nil) (.node (f215 P) (.node (f343 P) .nil .nil) .nil)) (.node (f119 P) (.node (f183 P) (.node (f311 P) .nil .nil) .nil) (.node (f247 P) (.node (f375 P) .nil .nil) .nil))))) (.node (f11 P) (.node (f19 P) (.node (f35 P) (.node (f67 P) (.node (f131 P) (.node (f259 P) .nil .nil) (.node (f387 P) .nil .nil)) (.node (f195 P) (.node (f323 P) .nil .nil) .nil)) (.node (f99 P) (.node (f163 P) (.node (f291 P) .nil .nil) .nil) (.node (f227 P) (.node (f355 P) .nil .nil) .nil))) (.node (f51 P) (.node (f83 P) (.node (f147 P) (.node (f275 P) .nil .nil) (.node (f403 P) .nil .nil)) (.node (f211 P) (.node (f339 P) .nil .nil) .nil)) (.node (f115 P) (.node (f179 P) (.node (f307 P) .nil .nil) .nil) (.node (f243 P) (.node (f371 P) .nil .nil) .nil)))) (.node (f27 P) (.node (f43 P) (.node (f75 P) (.node (f139 P) (.node (f267 P) .nil .nil) (.node (f395 P) .nil .nil)) (.node (f203 P) (.node (f331 P) .nil .nil) .nil)) (.node (f107 P) (.node (f171 P) (.node (f299 P) .nil .nil) .nil) (.node (f235 P) (.node (f363 P) .nil .nil) .nil))) (.node (f59 P) (.node (f91 P) (.node (f155 P) (.node (f283 P) .nil .nil) .nil) (.node (f219 P) (.node (f347 P) .nil .nil) .nil)) (.node (f123 P) (.node (f187 P) (.node (f315 P) .nil .nil) .nil) (.node (f251 P) (.node (f379 P) .nil .nil) .nil)))))) (.node (f5 P) (.node (f9 P) (.node (f17 P) (.node (f33 P) (.node (f65 P) (.node (f129 P) (.node (f257 P) .nil .nil) (.node (f385 P) .nil .nil)) (.node (f193 P) (.node (f321 P) .nil .nil) .nil)) (.node (f97 P) (.node (f161 P) (.node (f289 P) .nil .nil) .nil) (.node (f225 P) (.node (f353 P) .nil .nil) .nil))) (.node (f49 P) (.node (f81 P) (.node (f145 P) (.node (f273 P) .nil .nil) (.node (f401 P) .nil .nil)) (.node (f209 P) (.node (f337 P) .nil .nil) .nil)) (.node (f113 P) (.node (f177 P) (.node (f305 P) .nil .nil) .nil) (.node (f241 P) (.node (f369 P) .nil .nil) .nil)))) (.node (f25 P) (.node (f41 P) (.node (f73 P) (.node (f137 P) (.node (f265 P) .nil .nil) (.node (f393 P) .nil .nil)) (.node (f201 P) (.node (f329 P) .nil .nil) .nil)) (.node (f105 P) (.node (f169 P) (.node (f297 P) .nil .nil) .nil) (.node (f233 P) (.node (f361 P) .nil .nil) .nil))) (.node (f57 P) (.node (f89 P) (.node (f153 P) (.node (f281 P) .nil .nil) .nil) (.node (f217 P) (.node (f345 P) .nil .nil) .nil)) (.node (f121 P) (.node (f185 P) (.node (f313 P) .nil .nil) .nil) (.node (f249 P) (.node (f377 P) .nil .nil) .nil))))) (.node (f13 P) (.node (f21 P) (.node (f37 P) (.node (f69 P) (.node (f133 P) (.node (f261 P) .nil .nil) (.node (f389 P) .nil .nil)) (.node (f197 P) (.node (f325 P) .nil .nil) .nil)) (.node (f101 P) (.node (f165 P) (.node (f293 P) .nil .nil) .nil) (.node (f229 P) (.node (f357 P) .nil .nil) .nil))) (.node (f53 P) (.node (f85 P) (.node (f149 P) (.node (f277 P) .nil .nil) (.node (f405 P) .nil .nil)) (.node (f213 P) (.node (f341 P) .nil .nil) .nil)) (.node (f117 P) (.node (f181 P) (.node (f309 P) .nil .nil) .nil) (.node (f245 P) (.node (f373 P) .nil .nil) .nil)))) (.node (f29 P) (.node (f45 P) (.node (f77 P) (.node (f141 P) (.node (f269 P) .nil .nil) (.node (f397 P) .nil .nil)) (.node (f205 P) (.node (f333 P) .nil .nil) .nil)) (.node (f109 P) (.node (f173 P) (.node (f301 P) .nil .nil) .nil) (.node (f237 P) (.node (f365 P) .nil .nil) .nil))) (.node (f61 P) (.node (f93 P) (.node (f157 P) (.node (f285 P) .nil .nil) .nil) (.node (f221 P) (.node (f349 P) .nil .nil) .nil)) (.node (f125 P) (.node (f189 P) (.node (f317 P) .nil .nil) .nil) (.node (f253 P) (.node (f381 P) .nil .nil) .nil))))))) (.node (f2 P) (.node (f4 P) (.node (f8 P) (.node (f16 P) (.node (f32 P) (.node (f64 P) (.node (f128 P) (.node (f256 P) .nil .nil) (.node (f384 P) .nil .nil)) (.node (f192 P) (.node (f320 P) .nil .nil) .nil)) (.node (f96 P) (.node (f160 P) (.node (f288 P) .nil .nil) .nil) (.node (f224 P) (.node (f352 P) .nil .nil) .nil))) (.node (f48 P) (.node (f80 P) (.node (f144 P) (.node (f272 P) .nil .nil) (.node (f400 P) .nil .nil)) (.node (f208 P) (.node (f336 P) .nil .nil) .nil)) (.node (f112 P) (.node (f176 P) (.node (f304 P) .nil .nil) .nil) (.node (f240 P) (.node (f368 P) .nil .nil) .nil)))) (.node (f24 P) (.node (s40_40 P) (.node (f72 P) (.node (f136 P) (.node (f264 P) .nil .nil) (.node (f392 P) .nil .nil)) (.node (f200 P) (.node (f328 P) .nil .nil) .nil)) (.node (f104 P) (.node (f168 P) (.node (f296 P) .nil .nil) .nil) (.node (f232 P) (.node (f360 P) .nil .nil) .nil))) (.node (f56 P) (.node (f88 P) (.node (f152 P) (.node (f280 P) .nil .nil) .nil) (.node (f216 P) (.node (f344 P) .nil .nil) .nil)) (.node (f120 P) (.node (f184 P) (.node (f312 P) .nil .nil) .nil) (.node (f248 P) (.node (f376 P) .nil .nil) .nil))))) (.node (f12 P) (.node (f20 P) (.node (f36 P) (.node (f68 P) (.node (f132 P) (.node (f260 P) .nil .nil) (.node (f388 P) .nil .nil)) (.node (f196 P) (.node (f324 P) .nil .nil) .nil)) (.node (f100 P) (.node (f164 P) (.node (f292 P) .nil .nil) .nil) (.node (f228 P) (.node (f356 P) .nil .nil) .nil))) (.node (f52 P) (.node (f84 P) (.node (f148 P) (.node (f276 P) .nil .nil) (.node (f404 P) .nil .nil)) (.node (f212 P) (.node (f340 P) .nil .nil) .nil)) (.node (f116 P) (.node (f180 P) (.node (f308 P) .nil .nil) .nil) (.node (f244 P) (.node (f372 P) .nil .nil) .nil)))) (.node (f28 P) (.node (f44 P) (.node (f76 P) (.node (f140 P) (.node (f268 P) .nil .nil) (.node (f396 P) .nil .nil)) (.node (f204 P) (.node (f332 P) .nil .nil) .nil)) (.node (f108 P) (.node (f172 P) (.node (f300 P) .nil .nil) .nil) (.node (f236 P) (.node (f364 P) .nil .nil) .nil))) (.node (f60 P) (.node (f92 P) (.node (f156 P) (.node (f284 P) .nil .nil) .nil) (.node (f220 P) (.node (f348 P) .nil .nil) .nil)) (.node (f124 P) (.node (f188 P) (.node (f316 P) .nil .nil) .nil) (.node (f252 P) (.node (f380 P) .nil .nil) .nil)))))) (.node (f6 P) (.node (f10 P) (.node (f18 P) (.node (f34 P) (.node (f66 P) (.node (f130 P) (.node (f258 P) .nil .nil) (.node (f386 P) .nil .nil)) (.node (f194 P) (.node (f322 P) .nil .nil) .nil)) (.node (f98 P) (.node (f162 P) (.node (f290 P) .nil .nil) .nil) (.node (f226 P) (.node (f354 P) .nil .nil) .nil))) (.node (f50 P) (.node (f82 P) (.node (f146 P) (.node (f274 P) .nil .nil) (.node (f402 P) .nil .nil)) (.node (f210 P) (.node (f338 P) .nil .nil) .nil)) (.node (f114 P) (.node (f178 P) (.node (f306 P) .nil .nil) .nil) (.node (f242 P) (.node (f370 P) .nil .nil) .nil)))) (.node (f26 P) (.node (f42 P) (.node (f74 P) (.node (f138 P) (.node (f266 P) .nil .nil) (.node (f394 P) .nil .nil)) (.node (f202 P) (.node (f330 P) .nil .nil) .nil)) (.node (f106 P) (.node (f170 P) (.node (f298 P) .nil .nil) .nil) (.node (f234 P) (.node (f362 P) .nil .nil) .nil))) (.node (f58 P) (.node (f90 P) (.node (f154 P) (.node (f282 P) .nil .nil) .nil) (.node (f218 P) (.node (f346 P) .nil .nil) .nil)) (.node (f122 P) (.node (f186 P) (.node (f314 P) .nil .nil) .nil) (.node (f250 P) (.node (f378 P) .nil .nil) .nil))))) (.node (f14 P) (.node (f22 P) (.node (f38 P) (.node (f70 P) (.node (f134 P) (.node (f262 P) .nil .nil) (.node (f390 P) .nil .nil)) (.node (f198 P) (.node (f326 P) .nil .nil) .nil)) (.node (f102 P) (.node (f166 P) (.node (f294 P) .nil .nil) .nil) (.node (f230 P) (.node (f358 P) .nil .nil) .nil))) (.node (f54 P) (.node (f86 P) (.node (f150 P) (.node (f278 P) .nil .nil) (.node (f406 P) .nil .nil)) (.node (f214 P) (.node (f342 P) .nil .nil) .nil)) (.node (f118 P) (.node (f182 P) (.node (f310 P) .nil .nil) .nil) (.node (f246 P) (.node (f374 P) .nil .nil) .nil)))) (.node (f30 P) (.node (f46 P) (.node (f78 P) (.node (f142 P) (.node (f270 P) .nil .nil) (.node (f398 P) .nil .nil)) (.node (f206 P) (.node (f334 P) .nil .nil) .nil)) (.node (f110 P) (.node (f174 P) (.node (f302 P) .nil .nil) .nil) (.node (f238 P) (.node (f366 P) .nil .nil) .nil))) (.node (f62 P) (.node (f94 P) (.node (f158 P) (.node (f286 P) .nil .nil) .nil) (.node (f222 P) (.node (f350 P) .nil .nil) .nil)) (.node (f126 P) (.node (f190 P) (.node (f318 P) .nil .nil) .nil) (.node (f254 P) (.node (f382 P) .nil .nil) .nil))))))))
noncomputable def tree_s59 (P : Params) : BT := (.node (f0 P) (.node (f1 P) (.node (f3 P) (.node (f7 P) (.node (f15 P) (.node (f31 P) (.node (f63 P) (.node (f127 P) (.node (f255 P) (.node (f511 P) .nil .nil) .nil) (.node (f383 P) .nil .nil)) (.node (f191 P) (.node (f319 P) .nil .nil) (.node (f447 P) .nil .nil))) (.node (f95 P) (.node (f159 P) (.node (f287 P) .nil .nil) (.node (f415 P) .nil .nil)) (.node (f223 P) (.node (f351 P) .nil .nil) (.node (f479 P) .nil .nil)))) (.node (f47 P) (.node (f79 P) (.node (f143 P) (.node (f271 P) .nil .nil) (.node (f399 P) .nil .nil)) (.node (f207 P) (.node (f335 P) .nil .nil) (.node (f463 P) .nil .nil))) (.node (f111 P) (.node (f175 P) (.node (f303 P) .nil .nil) (.node (f431 P) .nil .nil)) (.node (f239 P) (.node (f367 P) .nil .nil) (.node (f495 P) .nil .nil))))) (.node (f23 P) (.node (f39 P) (.node (f71 P) (.node (f135 P) (.node (f263 P) (.node (f519 P) .nil .nil) .nil) (.node (f391 P) .nil .nil)) (.node (f199 P) (.node (f327 P) .nil .nil) (.node (f455 P) .nil .nil))) (.node (f103 P) (.node (f167 P) (.node (f295 P) .nil .nil) (.node (f423 P) .nil .nil)) (.node (f231 P) (.node (f359 P) .nil .nil) (.node (f487 P) .nil .nil)))) (.node (f55 P) (.node (f87 P) (.node (f151 P) (.node (f279 P) .nil .nil) (.node (f407 P) .nil .nil)) (.node (f215 P) (.node (f343 P) .nil .nil) (.node (f471 P) .nil .nil))) (.node (f119 P) (.node (f183 P) (.node (f311 P) .nil .nil) (.node (f439 P) .nil .nil)) (.node (f247 P) (.node (f375 P) .nil .nil) (.node (f503 P) .nil .nil)))))) (.node (f11 P) (.node (f19 P) (.node (f35 P) (.node (f67 P) (.node (f131 P) (.node (f259 P) (.node (f515 P) .nil .nil) .nil) (.node (f387 P) .nil .nil)) (.node (f195 P) (.node (f323 P) .nil .nil) (.node (f451 P) .nil .nil))) (.node (f99 P) (.node (f163 P) (.node (f291 P) .nil .nil) (.node (f419 P) .nil .nil)) (.node (f227 P) (.node (f355 P) .nil .nil) (.node (f483 P) .nil .nil)))) (.node (f51 P) (.node (f83 P) (.node (f147 P) (.node (f275 P) .nil .nil) (.node (f403 P) .nil .nil)) (.node (f211 P) (.node (f339 P) .nil .nil) (.node (f467 P) .nil .nil))) (.node (f115 P) (.node (f179 P) (.node (f307 P) .nil .nil) (.node (f435 P) .nil .nil)) (.node (f243 P) (.node (f371 P) .nil .nil) (.node (f499 P) .nil .nil))))) (.node (f27 P) (.node (f43 P) (.node (f75 P) (.node (f139 P) (.node (f267 P) (.node (f523 P) .nil .nil) .nil) (.node (f395 P) .nil .nil)) (.node (f203 P) (.node (f331 P) .nil .nil) (.node (f459 P) .nil .nil))) (.node (f107 P) (.node (f171 P) (.node (f299 P) .nil .nil) (.node (f427 P) .nil .nil)) (.node (f235 P) (.node (f363 P) .nil .nil) (.node (f491 P) .nil .nil)))) (.node (f59 P) (.node (f91 P) (.node (f155 P) (.node (f283 P) .nil .nil) (.node (f411 P) .nil .nil)) (.node (f219 P) (.node (f347 P) .nil .nil) (.node (f475 P) .nil .nil))) (.node (f123 P) (.node (f187 P) (.node (f315 P) .nil .nil) (.node (f443 P) .nil .nil)) (.node (f251 P) (.node (f379 P) .nil .nil) (.node (f507 P) .nil .nil))))))) (.node (f5 P) (.node (f9 P) (.node (f17 P) (.node (f33 P) (.node (f65 P) (.node (f129 P) (.node (f257 P) (.node (f513 P) .nil .nil) .nil) (.node (f385 P) .nil .nil)) (.node (f193 P) (.node (f321 P) .nil .nil) (.node (f449 P) .nil .nil))) (.node (f97 P) (.node (f161 P) (.node (f289 P) .nil .nil) (.node (f417 P) .nil .nil)) (.node (f225 P) (.node (f353 P) .nil .nil) (.node (f481 P) .nil .nil)))) (.node (f49 P) (.node (f81 P) (.node (f145 P) (.node (f273 P) .nil .nil) (.node (f401 P) .nil .nil)) (.node (f209 P) (.node (f337 P) .nil .nil) (.node (f465 P) .nil .nil))) (.node (f113 P) (.node (f177 P) (.node (f305 P) .nil .nil) (.node (f433 P) .nil .nil)) (.node (f241 P) (.node (f369 P) .nil .nil) (.node (f497 P) .nil .nil))))) (.node (f25 P) (.node (f41 P) (.node (f73 P) (.node (f137 P) (.node (f265 P) (.node (f521 P) .nil .nil) .nil) (.node (f393 P) .nil .nil)) (.node (f201 P) (.node (f329 P) .nil .nil) (.node (f457 P) .nil .nil))) (.node (f105 P) (.node (f169 P) (.node (f297 P) .nil .nil) (.node (f425 P) .nil .nil)) (.node (f233 P) (.node (f361 P) .nil .nil) (.node (f489 P) .nil .nil)))) (.node (f57 P) (.node (f89 P) (.node (f153 P) (.node (f281 P) .nil .nil) (.node (f409 P) .nil .nil)) (.node (f217 P) (.node (f345 P) .nil .nil) (.node (f473 P) .nil .nil))) (.node (f121 P) (.node (f185 P) (.node (f313 P) .nil .nil) (.node (f441 P) .nil .nil)) (.node (f249 P) (.node (f377 P) .nil .nil) (.node (f505 P) .nil .nil)))))) (.node (f13 P) (.node (f21 P) (.node (f37 P) (.node (f69 P) (.node (f133 P) (.node (f261 P) (.node (f517 P) .nil .nil) .nil) (.node (f389 P) .nil .nil)) (.node (f197 P) (.node (f325 P) .nil .nil) (.node (f453 P) .nil .nil))) (.node (f101 P) (.node (f165 P) (.node (f293 P) .nil .nil) (.node (f421 P) .nil .nil)) (.node (f229 P) (.node (f357 P) .nil .nil) (.node (f485 P) .nil .nil)))) (.node (f53 P) (.node (f85 P) (.node (f149 P) (.node (f277 P) .nil .nil) (.node (f405 P) .nil .nil)) (.node (f213 P) (.node (f341 P) .nil .nil) (.node (f469 P) .nil .nil))) (.node (f117 P) (.node (f181 P) (.node (f309 P) .nil .nil) (.node (f437 P) .nil .nil)) (.node (f245 P) (.node (f373 P) .nil .nil) (.node (f501 P) .nil .nil))))) (.node (f29 P) (.node (f45 P) (.node (f77 P) (.node (f141 P) (.node (f269 P) (.node (f525 P) .nil .nil) .nil) (.node (f397 P) .nil .nil)) (.node (f205 P) (.node (f333 P) .nil .nil) (.node (f461 P) .nil .nil))) (.node (f109 P) (.node (f173 P) (.node (f301 P) .nil .nil) (.node (f429 P) .nil .nil)) (.node (f237 P) (.node (f365 P) .nil .nil) (.node (f493 P) .nil .nil)))) (.node (f61 P) (.node (f93 P) (.node (f157 P) (.node (f285 P) .nil .nil) (.node (f413 P) .nil .nil)) (.node (f221 P) (.node (f349 P) .nil .nil) (.node (f477 P) .nil .nil))) (.node (f125 P) (.node (f189 P) (.node (f317 P) .nil .nil) (.node (f445 P) .nil .nil)) (.node (f253 P) (.node (f381 P) .nil .nil) (.node (f509 P) .nil .nil)))))))) (.node (f2 P) (.node (f4 P) (.node (f8 P) (.node (f16 P) (.node (f32 P) (.node (f64 P) (.node (f128 P) (.node (f256 P) (.node (f512 P) .nil .nil) .nil) (.node (f384 P) .nil .nil)) (.node (f192 P) (.node (f320 P) .nil .nil) (.node (f448 P) .nil .nil))) (.node (f96 P) (.node (f160 P) (.node (f288 P) .nil .nil) (.node (f416 P) .nil .nil)) (.node (f224 P) (.node (f352 P) .nil .nil) (.node (f480 P) .nil .nil)))) (.node (f48 P) (.node (f80 P) (.node (f144 P) (.node (f272 P) .nil .nil) (.node (f400 P) .nil .nil)) (.node (f208 P) (.node (f336 P) .nil .nil) (.node (f464 P) .nil .nil))) (.node (f112 P) (.node (f176 P) (.node (f304 P) .nil .nil) (.node (f432 P) .nil .nil)) (.node (f240 P) (.node (f368 P) .nil .nil) (.node (f496 P) .nil .nil))))) (.node (f24 P) (.node (f40 P) (.node (f72 P) (.node (f136 P) (.node (f264 P) (.node (f520 P) .nil .nil) .nil) (.node (f392 P) .nil .nil)) (.node (f200 P) (.node (f328 P) .nil .nil) (.node (f456 P) .nil .nil))) (.node (f104 P) (.node (f168 P) (.node (f296 P) .nil .nil) (.node (f424 P) .nil .nil)) (.node (f232 P) (.node (f360 P) .nil .nil) (.node (f488 P) .nil .nil)))) (.node (f56 P) (.node (f88 P) (.node (f152 P) (.node (f280 P) .nil .nil) (.node (f408 P) .nil .nil)) (.node (f216 P) (.node (f344 P) .nil .nil) (.node (f472 P) .nil .nil))) (.node (f120 P) (.node (f184 P) (.node (f312 P) .nil .nil) (.node (f440 P) .nil .nil)) (.node (f248 P) (.node (f376 P) .nil .nil) (.node (f504 P) .nil .nil)))))) (.node (f12 P) (.node (f20 P) (.node (f36 P) (.node (f68 P) (.node (f132 P) (.node (f260 P) (.node (f516 P) .nil .nil) .nil) (.node (f388 P) .nil .nil)) (.node (f196 P) (.node (f324 P) .nil .nil) (.node (f452 P) .nil .nil))) (.node (f100 P) (.node (f164 P) (.node (f292 P) .nil .nil) (.node (f420 P) .nil .nil)) (.node (f228 P) (.node (f356 P) .nil .nil) (.node (f484 P) .nil .nil)))) (.node (f52 P) (.node (f84 P) (.node (f148 P) (.node (f276 P) .nil .nil) (.node (f404 P) .nil .nil)) (.node (f212 P) (.node (f340 P) .nil .nil) (.node (f468 P) .nil .nil))) (.node (f116 P) (.node (f180 P) (.node (f308 P) .nil .nil) (.node (f436 P) .nil .nil)) (.node (f244 P) (.node (f372 P) .nil .nil) (.node (f500 P) .nil .nil))))) (.node (f28 P) (.node (f44 P) (.node (f76 P) (.node (f140 P) (.node (f268 P) (.node (f524 P) .nil .nil) .nil) (.node (f396 P) .nil .nil)) (.node (f204 P) (.node (f332 P) .nil .nil) (.node (f460 P) .nil .nil))) (.node (f108 P) (.node (f172 P) (.node (f300 P) .nil .nil) (.node (f428 P) .nil .nil)) (.node (f236 P) (.node (f364 P) .nil .nil) (.node (f492 P) .nil .nil)))) (.node (f60 P) (.node (f92 P) (.node (f156 P) (.node (f284 P) .nil .nil) (.node (f412 P) .nil .nil)) (.node (f220 P) (.node (f348 P) .nil .nil) (.node (f476 P) .nil .nil))) (.node (f124 P) (.node (f188 P) (.node (f316 P) .nil .nil) (.node (f444 P) .nil .nil)) (.node (f252 P) (.node (f380 P) .nil .nil) (.node (f508 P) .nil .nil))))))) (.node (f6 P) (.node (f10 P) (.node (f18 P) (.node (f34 P) (.node (f66 P) (.node (f130 P) (.node (f258 P) (.node (f514 P) .nil .nil) .nil) (.node (f386 P) .nil .nil)) (.node (f194 P) (.node (f322 P) .nil .nil) (.node (f450 P) .nil .nil))) (.node (f98 P) (.node (f162 P) (.node (f290 P) .nil .nil) (.node (f418 P) .nil .nil)) (.node (f226 P) (.node (f354 P) .nil .nil) (.node (f482 P) .nil .nil)))) (.node (f50 P) (.node (f82 P) (.node (f146 P) (.node (f274 P) .nil .nil) (.node (f402 P) .nil .nil)) (.node (f210 P) (.node (f338 P) .nil .nil) (.node (f466 P) .nil .nil))) (.node (f114 P) (.node (f178 P) (.node (f306 P) .nil .nil) (.node (f434 P) .nil .nil)) (.node (f242 P) (.node (f370 P) .nil .nil) (.node (f498 P) .nil .nil))))) (.node (f26 P) (.node (f42 P) (.node (f74 P) (.node (f138 P) (.node (f266 P) (.node (f522 P) .nil .nil) .nil) (.node (f394 P) .nil .nil)) (.node (f202 P) (.node (f330 P) .nil .nil) (.node (f458 P) .nil .nil))) (.node (f106 P) (.node (f170 P) (.node (f298 P) .nil .nil) (.node (f426 P) .nil .nil)) (.node (f234 P) (.node (f362 P) .nil .nil) (.node (f490 P) .nil .nil)))) (.node (f58 P) (.node (f90 P) (.node (f154 P) (.node (f282 P) .nil .nil) (.node (f410 P) .nil .nil)) (.node (f218 P) (.node (f346 P) .nil .nil) (.node (f474 P) .nil .nil))) (.node (f122 P) (.node (f186 P) (.node (f314 P) .nil .nil) (.node (f442 P) .nil .nil)) (.node (f250 P) (.node (f378 P) .nil .nil) (.node (f506 P) .nil .nil)))))) (.node (f14 P) (.node (f22 P) (.node (f38 P) (.node (f70 P) (.node (f134 P) (.node (f262 P) (.node (f518 P) .nil .nil) .nil) (.node (f390 P) .nil .nil)) (.node (f198 P) (.node (f326 P) .nil .nil) (.node (f454 P) .nil .nil))) (.node (f102 P) (.node (f166 P) (.node (f294 P) .nil .nil) (.node (f422 P) .nil .nil)) (.node (f230 P) (.node (f358 P) .nil .nil) (.node (f486 P) .nil .nil)))) (.node (f54 P) (.node (f86 P) (.node (f150 P) (.node (f278 P) .nil .nil) (.node (f406 P) .nil .nil)) (.node (f214 P) (.node (f342 P) .nil .nil) (.node (f470 P) .nil .nil))) (.node (f118 P) (.node (f182 P) (.node (f310 P) .nil .nil) (.node (f438 P) .nil .nil)) (.node (f246 P) (.node (f374 P) .nil .nil) (.node (f502 P) .nil .nil))))) (.node (f30 P) (.node (f46 P) (.node (f78 P) (.node (f142 P) (.node (f270 P) (.node (f526 P) .nil .nil) .nil) (.node (f398 P) .nil .nil)) (.node (f206 P) (.node (f334 P) .nil .nil) (.node (f462 P) .nil .nil))) (.node (f110 P) (.node (f174 P) (.node (f302 P) .nil .nil) (.node (f430 P) .nil .nil)) (.node (f238 P) (.node (f366 P) .nil .nil) (.node (f494 P) .nil .nil)))) (.node (f62 P) (.node (f94 P) (.node (f158 P) (.node (f286 P) .nil .nil) (.node (f414 P) .nil .nil)) (.node (f222 P) (.node (f350 P) .nil .nil) (.node (f478 P) .nil .nil))) (.node (f126 P) (.node (f190 P) (.node (f318 P) .nil .nil) (.node (f446 P) .nil .nil)) (.node (f254 P) (.node (f382 P) .nil .nil) (.node (f510 P) .nil .nil)))))))))
noncomputable def list_z (P : Params) : List Obj := [f0 P, f1 P, z_2 P, z_3 P, f4 P, f5 P, f6 P, f7 P, f8 P, f9 P, f10 P, f11 P, f12 P, f13 P, f14 P, f15 P, f16 P, f17 P, f18 P, f19 P, f20 P, f21 P, f22 P, f23 P, f24 P, f25 P, f26 P, f27 P, f28 P, f29 P, f30 P, f31 P, f32 P, f33 P, f34 P, f35 P, f36 P, f37 P, f38 P]
noncomputable def list_s0 (P : Params) : List Obj := [f0 P, f1 P, z_2 P, z_3 P, f4 P, f5 P, f6 P, f7 P, f8 P, f9 P, f10 P, f11 P, f12 P, f13 P, f14 P, f15 P, f16 P, f17 P, f18 P, f19 P, f20 P, f21 P, f22 P, f23 P, f24 P, f25 P, f26 P, f27 P, f28 P, f29 P, f30 P, f31 P, f32 P, f33 P, f34 P, f35 P, f36 P, f37 P, f38 P, f39 P, s0_40 P, f41 P, f42 P]
noncomputable def list_s59 (P : Params) : List Obj := [f0 P, f1 P, f2 P, f3 P, f4 P, f5 P, f6 P, f7 P, f8 P, f9 P, f10 P, f11 P, f12 P, f13 P, f14 P, f15 P, f16 P, f17 P, f18 P, f19 P, f20 P, f21 P, f22 P, f23 P, f24 P, f25 P, f26 P, f27 P, f28 P, f29 P, f30 P, f31 P, f32 P, f33 P, f34 P, f35 P, f36 P, f37 P, f38 P, f39 P, f40 P, f41 P, f42 P, f43 P, f44 P, f45 P, f46 P, f47 P, f48 P, f49 P, f50 P, f51 P, f52 P, f53 P, f54 P, f55 P, f56 P, f57 P, f58 P, f59 P, f60 P, f61 P, f62 P, f63 P, f64 P, f65 P, f66 P, f67 P, f68 P, f69 P, f70 P, f71 P, f72 P, f73 P, f74 P, f75 P, f76 P, f77 P, f78 P, f79 P, f80 P, f81 P, f82 P, f83 P, f84 P, f85 P, f86 P, f87 P, f88 P, f89 P, f90 P, f91 P, f92 P, f93 P, f94 P, f95 P, f96 P, f97 P, f98 P, f99 P, f100 P, f101 P, f102 P, f103 P, f104 P, f105 P, f106 P, f107 P, f108 P, f109 P, f110 P, f111 P, f112 P, f113 P, f114 P, f115 P, f116 P, f117 P, f118 P, f119 P, f120 P, f121 P, f122 P, f123 P, f124 P, f125 P, f126 P, f127 P, f128 P, f129 P, f130 P, f131 P, f132 P, f133 P, f134 P, f135 P, f136 P, f137 P, f138 P, f139 P, f140 P, f141 P, f142 P, f143 P, f144 P, f145 P, f146 P, f147 P, f148 P, f149 P, f150 P, f151 P, f152 P, f153 P, f154 P, f155 P, f156 P, f157 P, f158 P, f159 P, f160 P, f161 P, f162 P, f163 P, f164 P, f165 P, f166 P, f167 P, f168 P, f169 P, f170 P, f171 P, f172 P, f173 P, f174 P, f175 P, f176 P, f177 P, f178 P, f179 P, f180 P, f181 P, f182 P, f183 P, f184 P, f185 P, f186 P, f187 P, f188 P, f189 P, f190 P, f191 P, f192 P, f193 P, f194 P, f195 P, f196 P, f197 P, f198 P, f199 P, f200 P, f201 P, f202 P, f203 P, f204 P, f205 P, f206 P, f207 P, f208 P, f209 P, f210 P, f211 P, f212 P, f213 P, f214 P, f215 P, f216 P, f217 P, f218 P, f219 P, f220 P, f221 P, f222 P, f223 P, f224 P, f225 P, f226 P, f227 P, f228 P, f229 P, f230 P, f231 P, f232 P, f233 P, f234 P, f235 P, f236 P, f237 P, f238 P, f239 P, f240 P, f241 P, f242 P, f243 P, f244 P, f245 P, f246 P, f247 P, f248 P, f249 P, f250 P, f251 P, f252 P, f253 P, f254 P, f255 P, f256 P, f257 P, f258 P, f259 P, f260 P, f261 P, f262 P, f263 P, f264 P, f265 P, f266 P, f267 P, f268 P, f269 P, f270 P, f271 P, f272 P, f273 P, f274 P, f275 P, f276 P, f277 P, f278 P, f279 P, f280 P, f281 P, f282 P, f283 P, f284 P, f285 P, f286 P, f287 P, f288 P, f289 P, f290 P, f291 P, f292 P, f293 P, f294 P, f295 P, f296 P, f297 P, f298 P, f299 P, f300 P, f301 P, f302 P, f303 P, f304 P, f305 P, f306 P, f307 P, f308 P, f309 P, f310 P, f311 P, f312 P, f313 P, f314 P, f315 P, f316 P, f317 P, f318 P, f319 P, f320 P, f321 P, f322 P, f323 P, f324 P, f325 P, f326 P, f327 P, f328 P, f329 P, f330 P, f331 P, f332 P, f333 P, f334 P, f335 P, f336 P, f337 P, f338 P, f339 P, f340 P, f341 P, f342 P, f343 P, f344 P, f345 P, f346 P, f347 P, f348 P, f349 P, f350 P, f351 P, f352 P, f353 P, f354 P, f355 P, f356 P, f357 P, f358 P, f359 P, f360 P, f361 P, f362 P, f363 P, f364 P, f365 P, f366 P, f367 P, f368 P, f369 P, f370 P, f371 P, f372 P, f373 P, f374 P, f375 P, f376 P, f377 P, f378 P, f379 P, f380 P, f381 P, f382 P, f383 P, f384 P, f385 P, f386 P, f387 P, f388 P, f389 P, f390 P, f391 P, f392 P, f393 P, f394 P, f395 P, f396 P, f397 P, f398 P, f399 P, f400 P, f401 P, f402 P, f403 P, f404 P, f405 P, f406 P, f407 P, f408 P, f409 P, f410 P, f411 P, f412 P, f413 P, f414 P, f415 P, f416 P, f417 P, f418 P, f419 P, f420 P, f421 P, f422 P, f423 P, f424 P, f425 P, f426 P, f427 P, f428 P, f429 P, f430 P, f431 P, f432 P, f433 P, f434 P, f435 P, f436 P, f437 P, f438 P, f439 P, f440 P, f441 P, f442 P, f443 P, f444 P, f445 P, f446 P, f447 P, f448 P, f449 P, f450 P, f451 P, f452 P, f453 P, f454 P, f455 P, f456 P, f457 P, f458 P, f459 P, f460 P, f461 P, f462 P, f463 P, f464 P, f465 P, f466 P, f467 P, f468 P, f469 P, f470 P, f471 P, f472 P, f473 P, f474 P, f475 P, f476 P, f477 P, f478 P, f479 P, f480 P, f481 P, f482 P, f483 P, f484 P, f485 P, f486 P, f487 P, f488 P, f489 P, f490 P, f491 P, f492 P, f493 P, f494 P, f495 P, f496 P, f497 P, f498 P, f499 P, f500 P, f501 P, f502 P, f503 P, f504 P, f505 P, f506 P, f507 P, f508 P, f509 P, f510 P, f511 P, f512 P, f513 P, f514 P, f515 P, f516 P, f517 P, f518 P, f519 P, f520 P, f521 P, f522 P, f523 P, f524 P, f525 P, f526 P]
end Mine
namespace Mine
/-! Statement 22 (a tuple over a generator): its loop, turn by turn, over the objects that it reads alone. -/
def b1 : List Stmt := bdy.take 22
def bm : List Stmt := (bdy.drop 22).take 1
def b2 : List Stmt := bdy.drop 23
def p22 : Pos := ⟨128, 0, 128, 8⟩
def p23 : Pos := ⟨129, 0, 129, 9⟩
noncomputable def subT : BT → Nat → BT
  | .nil, _ => .nil
  | .node v l r, i => match Nat.beq i 0 with
    | true => .node v l r
    | false => match Nat.beq (i % 2) 1 with
      | true => subT l (i / 2)
      | false => subT r (i / 2 - 1)
noncomputable def oAt (T : BT) (a : Nat) : Obj := match T.get a with
  | some o => o
  | none => default
noncomputable def tree22 (P : Params) (o : Nat → Obj) (bt : Nat → BT) : BT := (.node (f0 P) (.node (o 1) (.node (s22_3 P) (.node (o 7) (.node (o 15) (.node (o 31) (bt 63) (.node (o 95) (bt 159) .nil)) (bt 47)) (.node (o 23) (.node (o 39) (bt 71) (.node (o 103) (bt 167) .nil)) (bt 55))) (.node (o 11) (.node (o 19) (.node (o 35) (bt 67) (.node (o 99) (bt 163) .nil)) (bt 51)) (bt 27))) (.node (o 5) (.node (o 9) (.node (o 17) (.node (o 33) (bt 65) (.node (o 97) (bt 161) .nil)) (bt 49)) (.node (o 25) (.node (f41 P) (bt 73) (.node (o 105) (bt 169) .nil)) (bt 57))) (.node (o 13) (.node (o 21) (.node (o 37) (bt 69) (.node (o 101) (bt 165) .nil)) (bt 53)) (.node (o 29) (bt 45) (.node (o 61) (.node (o 93) (bt 157) .nil) (bt 125)))))) (.node (f2 P) (.node (f4 P) (.node (o 8) (.node (o 16) (.node (o 32) (bt 64) (.node (o 96) (bt 160) .nil)) (bt 48)) (.node (o 24) (.node (s22_40 P) (bt 72) (.node (o 104) (bt 168) .nil)) (bt 56))) (.node (o 12) (.node (o 20) (.node (o 36) (bt 68) (.node (o 100) (bt 164) .nil)) (bt 52)) (bt 28))) (.node (o 6) (.node (o 10) (.node (o 18) (.node (o 34) (bt 66) (.node (o 98) (bt 162) .nil)) (bt 50)) (bt 26)) (.node (o 14) (.node (o 22) (.node (o 38) (bt 70) (.node (o 102) (bt 166) .nil)) (bt 54)) (.node (o 30) (bt 46) (.node (o 62) (.node (o 94) (bt 158) .nil) (bt 126)))))))
noncomputable def mk22 (P : Params) (o : Nat → Obj) (bt : Nat → BT) (os : OsState) : SharedT := ⟨tree22 P o bt, 221, ({} : Heap).life, #[], {}, 593, os⟩
def x222 (i : Nat) : Obj := Obj.mk (Value.type "range_iterator") none (Data.fields #[Value.int (Int.ofNat i) 0, Value.int (Int.ofNat (256 - i)) 0, Value.int 1 0]) #[]
def x226 (P : Params) (i : Nat) : Obj := Obj.mk (Value.type "frame") none (Data.dict #[DictEntry.mk (PyData.keyHash P (Str.ofString ".0")) (Value.str (Str.ofString ".0") 601) (Value.ref 222), DictEntry.mk (PyData.keyHash P (Str.ofString "i")) (Value.str (Str.ofString "i") 605) (Value.int (Int.ofNat (i - 1)) (600 + 4 * i))] 2) #[]
noncomputable def octs : Nat → Nat → List Value
  | 0, _ => []
  | n + 1, j => .bytes #[UInt8.ofNat j] (607 + 4 * j) :: octs n (j + 1)
noncomputable def x228 (i : Nat) : Obj := Obj.mk (Value.type "list") none (Data.seq (octs i 0).toArray (i + 2)) #[]
def thr22 : Thread := piecesOf bm envT (.body bdy envT) p22 [topFrame pos0]
noncomputable def aRun (n : Nat) (w : World) (o : Nat → Obj) (bt : Nat → BT) (os : OsState) : Option (SharedT × Thread) := segGoT treeTable pw w 39 annT 1 n (mk22 w.params o bt os) thr22
noncomputable def wF (w : World) : World := (w.withFollow "comprehension-iter-twice" false).withFollow "special-get-raises" false
noncomputable def sA (w : World) (o : Nat → Obj) (bt : Nat → BT) (os : OsState) : SharedT := match aRun 154 (wF w) o bt os with
  | some (s, _) => s
  | none => mk22 w.params o bt os
noncomputable def tA (w : World) (o : Nat → Obj) (bt : Nat → BT) (os : OsState) : Thread := match aRun 154 (wF w) o bt os with
  | some (_, t) => t
  | none => thr22
noncomputable def mkL (w : World) (o : Nat → Obj) (bt : Nat → BT) (os : OsState) (i : Nat) : SharedT := { sA w o bt os with tree := (((sA w o bt os).tree.set 222 fun _ => x222 i).set 226 fun _ => x226 w.params i).set 228 fun _ => x228 i, toks := 604 + 4 * i }
noncomputable def cRun (i k : Nat) (w : World) (o : Nat → Obj) (bt : Nat → BT) (os : OsState) : Option (SharedT × Thread) := segGoT treeTable pw w 39 annT 1 (49 * k) (mkL w o bt os i) (tA w o bt os)
noncomputable def cEnd (i : Nat) (w : World) (o : Nat → Obj) (bt : Nat → BT) (os : OsState) : Option (SharedT × Thread) := some (mkL w o bt os i, tA w o bt os)
noncomputable def eRun (w : World) (o : Nat → Obj) (bt : Nat → BT) (os : OsState) : Option (Flow × SharedT × Code × Pos) := segRunT treeTable pw w 39 annT 1 51 (mkL w o bt os 256) (tA w o bt os)
noncomputable def s23 (w : World) (o : Nat → Obj) (bt : Nat → BT) (os : OsState) : SharedT := match eRun w o bt os with
  | some (_, s, _, _) => s
  | none => mk22 w.params o bt os
noncomputable def eEnd (w : World) (o : Nat → Obj) (bt : Nat → BT) (os : OsState) : Option (Flow × SharedT × Code × Pos) := some (.next, s23 w o bt os, .body bdy envT, p23)
theorem lay22a : (fun (_ : Nat → World → (Nat → Obj) → (Nat → BT) → OsState → Option (SharedT × Thread)) (_ : Nat → Nat → World → (Nat → Obj) → (Nat → BT) → OsState → Option (SharedT × Thread)) (_ : Nat → World → (Nat → Obj) → (Nat → BT) → OsState → Option (SharedT × Thread)) => true) aRun cRun cEnd = true := by k_qdec
theorem lay22b : (fun (_ _ : World → (Nat → Obj) → (Nat → BT) → OsState → Option (Flow × SharedT × Code × Pos)) => true) eRun eEnd = true := by k_qdec
end Mine
namespace Mine
def vw : Program := { pw with main := { pw.main with body := [0, 1, 3, 5, 7, 10, 13, 15, 16, 17, 18, 19, 20, 21, 23, 24, 25, 26, 27, 28, 30, 31, 33, 34, 36, 37, 39, 40, 41, 43, 44, 46, 47, 48, 49, 50, 51, 52, 54, 55, 57, 58, 59].filterMap fun i => pw.main.body[i]? } }
def vloose : List PySem.Str := [PySem.Str.ofString "encode", PySem.Str.ofString "encode_base58", PySem.Str.ofString "decode", PySem.Str.ofString "decode_base58", PySem.Str.ofString "convertbits", PySem.Str.ofString "convertbits_bech32", PySem.Str.ofString "convertbits_bech322", PySem.Str.ofString "ListSerializationError", PySem.Str.ofString "ListDeserializationError", PySem.Str.ofString "ALL_BYTES", PySem.Str.ofString "Atomic", PySem.Str.ofString "Sequence", PySem.Str.ofString "big_endian_int", PySem.Str.ofString "Binary", PySem.Str.ofString "binary", PySem.Str.ofString "boolean", PySem.Str.ofString "List", PySem.Str.ofString "encode_codec", PySem.Str.ofString "LONG_LENGTH", PySem.Str.ofString "SHORT_STRING", PySem.Str.ofString "decode_codec"]
def vX (s : Shared) : Bool := xlAt vw [] s && recOk (RowW.records (OpenRow.toRowW PySem.Challenge.rw_vn0015_01.row)) s
def seenAll (s₁ : Shared) := openSeen vw vloose (importedModules pw.main.body) vX false s₁
def goodAll := openGood vw vloose
noncomputable def os0 : OsState := (start (opening pw)).1.os
noncomputable def st_s0 (w : World) : SharedT := ⟨tree_s0 w.params, 43, ({} : Heap).life, #[], {}, 319, os0⟩
def ps_s0 : Pos := ⟨0, 0, 0, 0⟩
noncomputable def st_s15 (w : World) : SharedT := ⟨tree_s15 w.params, 93, ({} : Heap).life, #[], {}, 417, os0⟩
def ps_s15 : Pos := ⟨86, 0, 87, 8⟩
noncomputable def st_s18 (w : World) : SharedT := ⟨tree_s18 w.params, 156, ({} : Heap).life, #[], {}, 501, os0⟩
def ps_s18 : Pos := ⟨98, 0, 102, 22⟩
noncomputable def st_s22 (w : World) : SharedT := ⟨tree_s22 w.params, 221, ({} : Heap).life, #[], {}, 593, os0⟩
def ps_s22 : Pos := ⟨128, 0, 128, 8⟩
noncomputable def st_s23 (w : World) : SharedT := ⟨tree_s23 w.params, 234, ({} : Heap).life, #[.finished], {}, 1629, os0⟩
def ps_s23 : Pos := ⟨129, 0, 129, 9⟩
noncomputable def st_s32 (w : World) : SharedT := ⟨tree_s32 w.params, 296, ({} : Heap).life, #[.finished], {}, 1707, os0⟩
def ps_s32 : Pos := ⟨168, 0, 168, 8⟩
noncomputable def st_s33 (w : World) : SharedT := ⟨tree_s33 w.params, 360, ({} : Heap).life, #[.finished], {}, 1805, os0⟩
def ps_s33 : Pos := ⟨169, 0, 203, 84⟩
noncomputable def st_s40 (w : World) : SharedT := ⟨tree_s40 w.params, 407, ({} : Heap).life, #[.finished], {}, 1874, os0⟩
def ps_s40 : Pos := ⟨229, 0, 230, 98⟩
noncomputable def st_s59 (w : World) : SharedT := ⟨tree_s59 w.params, 527, ({} : Heap).life, #[.finished], {}, 2082, os0⟩
def ps_s59 : Pos := ⟨401, 0, 433, 15⟩
noncomputable def zL (w : World) : Shared := ⟨⟨⟨list_z w.params⟩, ({} : Heap).life⟩, #[], {}, 313, os0⟩
noncomputable def aL (w : World) : Shared := ⟨⟨⟨list_s0 w.params⟩, ({} : Heap).life⟩, #[], {}, 319, os0⟩
noncomputable def vL (w : World) : Shared := ⟨⟨⟨list_s59 w.params⟩, ({} : Heap).life⟩, #[.finished], {}, 2082, os0⟩
noncomputable def run_0 : World → Option (Flow × SharedT × Code × Pos) := fun w => segRunT treeTable pw w 39 annT 1 900 (st_s0 w) (piecesOf ((bdy.drop 0).take 15) envT (.body bdy envT) ps_s0 [topFrame pos0])
noncomputable def end_0 : World → Option (Flow × SharedT × Code × Pos) := fun w => some (.next, st_s15 w, .body bdy envT, ps_s15)
noncomputable def run_15 : World → Option (Flow × SharedT × Code × Pos) := fun w => segRunT treeTable pw w 39 annT 1 900 (st_s15 w) (piecesOf ((bdy.drop 15).take 3) envT (.body bdy envT) ps_s15 [topFrame pos0])
noncomputable def end_15 : World → Option (Flow × SharedT × Code × Pos) := fun w => some (.next, st_s18 w, .body bdy envT, ps_s18)
noncomputable def run_18 : World → Option (Flow × SharedT × Code × Pos) := fun w => segRunT treeTable pw w 39 annT 1 900 (st_s18 w) (piecesOf ((bdy.drop 18).take 4) envT (.body bdy envT) ps_s18 [topFrame pos0])
noncomputable def end_18 : World → Option (Flow × SharedT × Code × Pos) := fun w => some (.next, st_s22 w, .body bdy envT, ps_s22)
noncomputable def run_23 : World → Option (Flow × SharedT × Code × Pos) := fun w => segRunT treeTable pw w 39 annT 1 900 (st_s23 w) (piecesOf ((bdy.drop 23).take 9) envT (.body bdy envT) ps_s23 [topFrame pos0])
noncomputable def end_23 : World → Option (Flow × SharedT × Code × Pos) := fun w => some (.next, st_s32 w, .body bdy envT, ps_s32)
noncomputable def run_32 : World → Option (Flow × SharedT × Code × Pos) := fun w => segRunT treeTable pw w 39 annT 1 900 (st_s32 w) (piecesOf ((bdy.drop 32).take 1) envT (.body bdy envT) ps_s32 [topFrame pos0])
noncomputable def end_32 : World → Option (Flow × SharedT × Code × Pos) := fun w => some (.next, st_s33 w, .body bdy envT, ps_s33)
noncomputable def run_33 : World → Option (Flow × SharedT × Code × Pos) := fun w => segRunT treeTable pw w 39 annT 1 900 (st_s33 w) (piecesOf ((bdy.drop 33).take 7) envT (.body bdy envT) ps_s33 [topFrame pos0])
noncomputable def end_33 : World → Option (Flow × SharedT × Code × Pos) := fun w => some (.next, st_s40 w, .body bdy envT, ps_s40)
noncomputable def run_40 : World → Option (Flow × SharedT × Code × Pos) := fun w => segRunT treeTable pw w 39 annT 1 900 (st_s40 w) (piecesOf ((bdy.drop 40).take 19) envT (.body bdy envT) ps_s40 [topFrame pos0])
noncomputable def end_40 : World → Option (Flow × SharedT × Code × Pos) := fun w => some (.next, st_s59 w, .body bdy envT, ps_s59)
noncomputable def open_l : World → Option Shared := openedG pw 988
noncomputable def open_r : World → Option Shared := fun w => some (zL w)
noncomputable def stub_l : World → Option (Shared × Thread) := fun w => topGo treeTable pw w 39 annT 12 (zL w) (topStub pw)
noncomputable def stub_r : World → Option (Shared × Thread) := fun w => some (aL w, ⟨denote treeTable (.body bdy envT), .body bdy envT, pos0, [topFrame pos0]⟩)
noncomputable def m22 : World → SharedT := fun w => mk22 w.params (oAt (tree_s22 w.params)) (subT (tree_s22 w.params)) os0
noncomputable def y22 : World → SharedT := fun w => s23 w (oAt (tree_s22 w.params)) (subT (tree_s22 w.params)) os0
noncomputable def statAll : World → Bool := fun w => staticsOk (importedModules pw.main.body) (zL w).heap (vL w).heap && namesBound pw (vL w).heap && gensDone (vL w) && laidKept (zL w).heap (vL w).heap
noncomputable def nsAll : World → Bool × Nat × Option Value := fun w => ((zL w).heap.isNs mainGlobals && (zL w).gens.size == 0, (zL w).heap.objs.size, (zL w).heap.nsMap mainGlobals "__annotations__")
noncomputable def seenL := fun (w : World) => seenAll (vL w)
noncomputable def sn_0 := fun (w : World) => (seenAll (vL w)).1
noncomputable def gd_0 := goodAll.1
noncomputable def sn_1 := fun (w : World) => (seenAll (vL w)).2.1
noncomputable def gd_1 := goodAll.2.1
noncomputable def sn_2 := fun (w : World) => (seenAll (vL w)).2.2.1
noncomputable def gd_2 := goodAll.2.2.1
noncomputable def sn_3 := fun (w : World) => (seenAll (vL w)).2.2.2.1
noncomputable def gd_3 := goodAll.2.2.2.1
noncomputable def sn_4 := fun (w : World) => (seenAll (vL w)).2.2.2.2.1
noncomputable def gd_4 := goodAll.2.2.2.2.1
noncomputable def sn_5 := fun (w : World) => (seenAll (vL w)).2.2.2.2.2.1
noncomputable def gd_5 := goodAll.2.2.2.2.2.1
noncomputable def sn_6 := fun (w : World) => (seenAll (vL w)).2.2.2.2.2.2.1
noncomputable def gd_6 := goodAll.2.2.2.2.2.2.1
noncomputable def sn_7 := fun (w : World) => (seenAll (vL w)).2.2.2.2.2.2.2.1
noncomputable def gd_7 := goodAll.2.2.2.2.2.2.2.1
noncomputable def sn_8 := fun (w : World) => (seenAll (vL w)).2.2.2.2.2.2.2.2
noncomputable def gd_8 := goodAll.2.2.2.2.2.2.2.2
theorem lay0 : (fun (_ : World → Option (Flow × SharedT × Code × Pos)) => true) run_0 = true := by k_qdec
theorem lay1 : (fun (_ : World → Option (Flow × SharedT × Code × Pos)) => true) end_0 = true := by k_qdec
theorem lay2 : (fun (_ : World → Option (Flow × SharedT × Code × Pos)) => true) run_15 = true := by k_qdec
theorem lay3 : (fun (_ : World → Option (Flow × SharedT × Code × Pos)) => true) end_15 = true := by k_qdec
theorem lay4 : (fun (_ : World → Option (Flow × SharedT × Code × Pos)) => true) run_18 = true := by k_qdec
theorem lay5 : (fun (_ : World → Option (Flow × SharedT × Code × Pos)) => true) end_18 = true := by k_qdec
theorem lay6 : (fun (_ : World → Option (Flow × SharedT × Code × Pos)) => true) run_23 = true := by k_qdec
theorem lay7 : (fun (_ : World → Option (Flow × SharedT × Code × Pos)) => true) end_23 = true := by k_qdec
theorem lay8 : (fun (_ : World → Option (Flow × SharedT × Code × Pos)) => true) run_32 = true := by k_qdec
theorem lay9 : (fun (_ : World → Option (Flow × SharedT × Code × Pos)) => true) end_32 = true := by k_qdec
theorem lay10 : (fun (_ : World → Option (Flow × SharedT × Code × Pos)) => true) run_33 = true := by k_qdec
theorem lay11 : (fun (_ : World → Option (Flow × SharedT × Code × Pos)) => true) end_33 = true := by k_qdec
theorem lay12 : (fun (_ : World → Option (Flow × SharedT × Code × Pos)) => true) run_40 = true := by k_qdec
theorem lay13 : (fun (_ : World → Option (Flow × SharedT × Code × Pos)) => true) end_40 = true := by k_qdec
theorem lay14 : (fun (_ : World → Option Shared) => true) open_l = true := by k_qdec
theorem lay15 : (fun (_ : World → Option Shared) => true) open_r = true := by k_qdec
theorem lay16 : (fun (_ : World → Option (Shared × Thread)) => true) stub_l = true := by k_qdec
theorem lay17 : (fun (_ : World → Option (Shared × Thread)) => true) stub_r = true := by k_qdec
theorem lay18 : (fun (_ : World → SharedT) => true) m22 = true := by k_qdec
theorem lay19 : (fun (_ : World → SharedT) => true) y22 = true := by k_qdec
theorem lay20 : (fun (_ : World → SharedT) => true) st_s22 = true := by k_qdec
theorem lay21 : (fun (_ : World → SharedT) => true) st_s23 = true := by k_qdec
theorem lay22 : (fun (_ : World → Bool) => true) statAll = true := by k_qdec
theorem lay23 : (fun (_ : World → Bool × Nat × Option Value) => true) nsAll = true := by k_qdec
theorem lay24 : (fun (_ : World → _) => true) sn_0 = true := by k_qdec
theorem lay25 : (fun (_ : _) => true) gd_0 = true := by k_qdec
theorem lay26 : (fun (_ : World → _) => true) sn_1 = true := by k_qdec
theorem lay27 : (fun (_ : _) => true) gd_1 = true := by k_qdec
theorem lay28 : (fun (_ : World → _) => true) sn_2 = true := by k_qdec
theorem lay29 : (fun (_ : _) => true) gd_2 = true := by k_qdec
theorem lay30 : (fun (_ : World → _) => true) sn_3 = true := by k_qdec
theorem lay31 : (fun (_ : _) => true) gd_3 = true := by k_qdec
theorem lay32 : (fun (_ : World → _) => true) sn_4 = true := by k_qdec
theorem lay33 : (fun (_ : _) => true) gd_4 = true := by k_qdec
theorem lay34 : (fun (_ : World → _) => true) sn_5 = true := by k_qdec
theorem lay35 : (fun (_ : _) => true) gd_5 = true := by k_qdec
theorem lay36 : (fun (_ : World → _) => true) sn_6 = true := by k_qdec
theorem lay37 : (fun (_ : _) => true) gd_6 = true := by k_qdec
theorem lay38 : (fun (_ : World → _) => true) sn_7 = true := by k_qdec
theorem lay39 : (fun (_ : _) => true) gd_7 = true := by k_qdec
theorem lay40 : (fun (_ : World → _) => true) sn_8 = true := by k_qdec
theorem lay41 : (fun (_ : _) => true) gd_8 = true := by k_qdec
theorem lay42 : (fun (_ : World → Shared) => true) vL = true := by k_qdec
end Mine
end
section
example : True := by
  w_top off
  trivial
open PySem PySem.W PyProof.Rows
namespace Mine
def W4 (w : World) (a b : Bool) : World := (w.withFollow "comprehension-iter-twice" a).withFollow "special-get-raises" b
theorem a_ff : ∀ w o bt os, aRun 154 (W4 w false false) o bt os = cEnd 1 (W4 w false false) o bt os := by
  intro w o bt os
  rw [PySem.W.Fast.te7263799284149467590, PySem.W.Fast.te1849633176277711609]
  kernel_rfl
theorem a_ft : ∀ w o bt os, aRun 154 (W4 w false true) o bt os = cEnd 1 (W4 w false true) o bt os := by
  intro w o bt os
  rw [PySem.W.Fast.te7263799284149467590, PySem.W.Fast.te1849633176277711609]
  kernel_rfl
theorem a_tf : ∀ w o bt os, aRun 144 (W4 w true false) o bt os = cEnd 1 (W4 w true false) o bt os := by
  intro w o bt os
  rw [PySem.W.Fast.te7263799284149467590, PySem.W.Fast.te1849633176277711609]
  kernel_rfl
theorem a_tt : ∀ w o bt os, aRun 144 (W4 w true true) o bt os = cEnd 1 (W4 w true true) o bt os := by
  intro w o bt os
  rw [PySem.W.Fast.te7263799284149467590, PySem.W.Fast.te1849633176277711609]
  kernel_rfl
theorem c_1 : ∀ w o bt os, cRun 1 32 w o bt os = cEnd 33 w o bt os := by
  intro w o bt os
  rw [PySem.W.Fast.te14831294255217810995, PySem.W.Fast.te1849633176277711609]
  kernel_rfl
theorem c_33 : ∀ w o bt os, cRun 33 32 w o bt os = cEnd 65 w o bt os := by
  intro w o bt os
  rw [PySem.W.Fast.te14831294255217810995, PySem.W.Fast.te1849633176277711609]
  kernel_rfl
theorem c_65 : ∀ w o bt os, cRun 65 32 w o bt os = cEnd 97 w o bt os := by
  intro w o bt os
  rw [PySem.W.Fast.te14831294255217810995, PySem.W.Fast.te1849633176277711609]
  kernel_rfl
theorem c_97 : ∀ w o bt os, cRun 97 32 w o bt os = cEnd 129 w o bt os := by
  intro w o bt os
  rw [PySem.W.Fast.te14831294255217810995, PySem.W.Fast.te1849633176277711609]
  kernel_rfl
theorem c_129 : ∀ w o bt os, cRun 129 32 w o bt os = cEnd 161 w o bt os := by
  intro w o bt os
  rw [PySem.W.Fast.te14831294255217810995, PySem.W.Fast.te1849633176277711609]
  kernel_rfl
theorem c_161 : ∀ w o bt os, cRun 161 32 w o bt os = cEnd 193 w o bt os := by
  intro w o bt os
  rw [PySem.W.Fast.te14831294255217810995, PySem.W.Fast.te1849633176277711609]
  kernel_rfl
theorem c_193 : ∀ w o bt os, cRun 193 32 w o bt os = cEnd 225 w o bt os := by
  intro w o bt os
  rw [PySem.W.Fast.te14831294255217810995, PySem.W.Fast.te1849633176277711609]
  kernel_rfl
theorem c_225 : ∀ w o bt os, cRun 225 31 w o bt os = cEnd 256 w o bt os := by
  intro w o bt os
  rw [PySem.W.Fast.te14831294255217810995, PySem.W.Fast.te1849633176277711609]
  kernel_rfl
theorem e_22 : ∀ w o bt os, eRun w o bt os = eEnd w o bt os := by
  intro w o bt os
  rw [PySem.W.Fast.te6509233067750272862, PySem.W.Fast.te6281511924140909306]
  kernel_rfl
end Mine
end
section
example : True := by
  w_top off
  trivial
open PySem PySem.W PyProof.Rows
namespace Mine
theorem segRun_mono {tb : String → Option Builtin} {p : Program} {w : World} {n₀ : Nat} {ann : Option Value} {b : Nat} (k : Nat) : ∀ (n : Nat) (s : Shared) (t : Thread) (r : Flow × Shared × Code × Pos), segRun tb p w n₀ ann b n s t = some r → segRun tb p w n₀ ann b (n + k) s t = some r
  | 0, _, _, _, h => by simp [segRun] at h
  | n + 1, s, t, r, h => by
    rw [show n + 1 + k = n + k + 1 by omega]
    unfold segRun at h ⊢
    cases he : endAt b t with
    | some f => rw [he] at h; exact h
    | none =>
      rw [he] at h
      cases hk : stepOk n₀ ann t with
      | false => rw [hk] at h; cases h
      | true =>
        rw [hk] at h
        cases hs : step (denote tb) p w s t with
        | go s' t' => rw [hs] at h; exact segRun_mono k n s' t' r h
        | halt o s' => rw [hs] at h; cases h
theorem seg_join {tb : String → Option Builtin} {p : Program} {w : World} {n₀ : Nat} {ann : Option Value} {b : Nat} {n N k F : Nat} {s s' : SharedT} {t t' : Thread} {r : Flow × Shared × Code × Pos} (hF : n + N + k = F) (h : segGoT tb p w n₀ ann b n s t = some (s', t'))
    (e : segRun tb p w n₀ ann b N s'.abs t' = some r) : segRun tb p w n₀ ann b F s.abs t = some r := hF ▸ segRun_mono k _ _ _ _ (seg_go (segGo_of h) e)
theorem aRun_eq (n : Nat) (w : World) (o : Nat → Obj) (bt : Nat → BT) (os : OsState) : aRun n w o bt os = segGoT treeTable pw w 39 annT 1 n (mk22 w.params o bt os) thr22 := by unfold aRun; with_reducible rfl
theorem cRun_eq (i k : Nat) (w : World) (o : Nat → Obj) (bt : Nat → BT) (os : OsState) : cRun i k w o bt os = segGoT treeTable pw w 39 annT 1 (49 * k) (mkL w o bt os i) (tA w o bt os) := by unfold cRun; with_reducible rfl
theorem cEnd_eq (i : Nat) (w : World) (o : Nat → Obj) (bt : Nat → BT) (os : OsState) : cEnd i w o bt os = some (mkL w o bt os i, tA w o bt os) := by unfold cEnd; with_reducible rfl
theorem eRun_eq (w : World) (o : Nat → Obj) (bt : Nat → BT) (os : OsState) : eRun w o bt os = segRunT treeTable pw w 39 annT 1 51 (mkL w o bt os 256) (tA w o bt os) := by unfold eRun; with_reducible rfl
theorem eEnd_eq (w : World) (o : Nat → Obj) (bt : Nat → BT) (os : OsState) : eEnd w o bt os = some (.next, s23 w o bt os, .body bdy envT, p23) := by unfold eEnd; with_reducible rfl
/-- statement 22 from turn i on -/
def L22 (i F : Nat) : Prop := ∀ w o bt os, segRun treeTable pw w 39 annT 1 F (mkL w o bt os i).abs (tA w o bt os) = some (.next, (s23 w o bt os).abs, .body bdy envT, p23)
theorem l_256 : L22 256 51 := by
  intro w o bt os
  have h := e_22 w o bt os
  rw [eRun_eq, eEnd_eq] at h
  exact segRun_of h
theorem l_turn {i k j F F' : Nat} (hF : 49 * k + F + 0 = F') (hc : ∀ w o bt os, cRun i k w o bt os = cEnd j w o bt os) (hl : L22 j F) : L22 i F' := by
  intro w o bt os
  have h := hc w o bt os
  rw [cRun_eq, cEnd_eq] at h
  exact seg_join hF h (hl w o bt os)
theorem l_225 : L22 225 1570 := l_turn (by decide) c_225 l_256
theorem l_193 : L22 193 3138 := l_turn (by decide) c_193 l_225
theorem l_161 : L22 161 4706 := l_turn (by decide) c_161 l_193
theorem l_129 : L22 129 6274 := l_turn (by decide) c_129 l_161
theorem l_97 : L22 97 7842 := l_turn (by decide) c_97 l_129
theorem l_65 : L22 65 9410 := l_turn (by decide) c_65 l_97
theorem l_33 : L22 33 10978 := l_turn (by decide) c_33 l_65
theorem l_1 : L22 1 12546 := l_turn (by decide) c_1 l_33
def S22 (w : World) : Prop := ∀ o bt os, segRun treeTable pw w 39 annT 1 12700 (mk22 w.params o bt os).abs thr22 = some (.next, (s23 w o bt os).abs, .body bdy envT, p23)
theorem s_case {n k : Nat} {w : World} (hF : n + 12546 + k = 12700) (ha : ∀ o bt os, aRun n w o bt os = cEnd 1 w o bt os) : S22 w := by
  intro o bt os
  have h := ha o bt os
  rw [aRun_eq, cEnd_eq] at h
  exact seg_join hF h (l_1 w o bt os)
theorem st22 : ∀ w, S22 w :=
  byRow2 "special-get-raises" (P := S22)
    (byRow2 "comprehension-iter-twice" (P := fun w => S22 (w.withFollow "special-get-raises" false)) (fun w => s_case (w := W4 w false false) (k := 0) rfl (a_ff w)) (fun w => s_case (w := W4 w true false) (k := 10) rfl (a_tf w)))
    (byRow2 "comprehension-iter-twice" (P := fun w => S22 (w.withFollow "special-get-raises" true)) (fun w => s_case (w := W4 w false true) (k := 0) rfl (a_ft w)) (fun w => s_case (w := W4 w true true) (k := 10) rfl (a_tt w)))
end Mine
end
section
example : True := by
  w_top off
  trivial
open PySem PySem.W PyProof.Rows
namespace Mine
theorem startOk_t : startOk (start (opening pw)).1 = true := by k_qdec
theorem hB : ∀ s w, segRun treeTable pw w 39 annT 1 1 s (blockOf bdy envT (.body bdy envT) pos0 [topFrame pos0]) = some (.next, s, .body bdy envT, pos0) := by
  intro s w
  kernel_rfl
theorem hF : ∀ (s : Shared) (w : World) (p' : Pos), topRun treeTable pw w 39 annT 2 s ⟨doneF .next, .body bdy envT, p', [topFrame pos0]⟩ = some s := by
  intro s w p'
  kernel_rfl
theorem abs_0 : ∀ w, (st_s0 w).abs = aL w := by
  intro w
  kernel_rfl
theorem abs_f : ∀ w, (st_s59 w).abs = vL w := by
  intro w
  kernel_rfl
theorem r_0 : run_0 = end_0 := by
  rw [PySem.W.Fast.te1015263203011713382, PySem.W.Fast.te9092615276284844417]
  kernel_rfl
theorem r_15 : run_15 = end_15 := by
  rw [PySem.W.Fast.te8515694162603982435, PySem.W.Fast.te11694911665961968186]
  kernel_rfl
theorem r_18 : run_18 = end_18 := by
  rw [PySem.W.Fast.te4427213156383291542, PySem.W.Fast.te10367317478468026178]
  kernel_rfl
theorem r_23 : run_23 = end_23 := by
  rw [PySem.W.Fast.te3267210078782577457, PySem.W.Fast.te10203714035792303373]
  kernel_rfl
theorem r_32 : run_32 = end_32 := by
  rw [PySem.W.Fast.te14951979155142503087, PySem.W.Fast.te35584832855537809]
  kernel_rfl
theorem r_33 : run_33 = end_33 := by
  rw [PySem.W.Fast.te9334600354070829377, PySem.W.Fast.te18411177574035896284]
  kernel_rfl
theorem r_40 : run_40 = end_40 := by
  rw [PySem.W.Fast.te16685449502307194558, PySem.W.Fast.te18240142236106786543]
  kernel_rfl
theorem open_eq : open_l = open_r := by
  rw [PySem.W.Fast.te10672832489257706366, PySem.W.Fast.te4013652255763605816]
  kernel_rfl
theorem stub_eq : stub_l = stub_r := by
  rw [PySem.W.Fast.te13060882847290742502, PySem.W.Fast.te17818104793941007944]
  kernel_rfl
theorem m22_eq : m22 = st_s22 := by
  rw [PySem.W.Fast.te7040207657707022980, PySem.W.Fast.te7203356067706869136]
  kernel_rfl
theorem y22_eq : y22 = st_s23 := by
  rw [PySem.W.Fast.te12193129468007744817, PySem.W.Fast.te14441376088360825094]
  kernel_rfl
theorem stat_t : statAll = fun _ => true := by
  rw [PySem.W.Fast.te8416928518282016109]
  kernel_rfl
theorem ns_t : nsAll = fun _ => (true, 39, annT) := by
  rw [PySem.W.Fast.te10207395250083783775]
  kernel_rfl
theorem sn_t0 : sn_0 = fun _ => gd_0 := by
  rw [PySem.W.Fast.te11689639780948048674, PySem.W.Fast.te3689432409532911590]
  kernel_rfl
theorem sn_t1 : sn_1 = fun _ => gd_1 := by
  rw [PySem.W.Fast.te11243490985604144563, PySem.W.Fast.te13482233527611129617]
  kernel_rfl
theorem sn_t2 : sn_2 = fun _ => gd_2 := by
  rw [PySem.W.Fast.te14102065170579042991, PySem.W.Fast.te15177372954005961446]
  kernel_rfl
theorem sn_t3 : sn_3 = fun _ => gd_3 := by
  rw [PySem.W.Fast.te2376680317177001004, PySem.W.Fast.te6476876135064045519]
  kernel_rfl
theorem sn_t4 : sn_4 = fun _ => gd_4 := by
  rw [PySem.W.Fast.te4740509973274699293, PySem.W.Fast.te3290858354445009918]
  kernel_rfl
theorem sn_t5 : sn_5 = fun _ => gd_5 := by
  rw [PySem.W.Fast.te10240341384380698137, PySem.W.Fast.te6739092828701986861]
  kernel_rfl
theorem sn_t6 : sn_6 = fun _ => gd_6 := by
  rw [PySem.W.Fast.te961887286831881108, PySem.W.Fast.te2100967809258313688]
  kernel_rfl
theorem sn_t7 : sn_7 = fun _ => gd_7 := by
  rw [PySem.W.Fast.te11847334982705774032, PySem.W.Fast.te12206067645083544168]
  kernel_rfl
theorem sn_t8 : sn_8 = fun _ => gd_8 := by
  rw [PySem.W.Fast.te5012560575836106000, PySem.W.Fast.te2481106148294405089]
  kernel_rfl
theorem seen_t (w : World) : seenL w = goodAll := (Prod.ext (congrFun sn_t0 w) (Prod.ext (congrFun sn_t1 w) (Prod.ext (congrFun sn_t2 w) (Prod.ext (congrFun sn_t3 w) (Prod.ext (congrFun sn_t4 w) (Prod.ext (congrFun sn_t5 w) (Prod.ext (congrFun sn_t6 w) (Prod.ext (congrFun sn_t7 w) (congrFun sn_t8 w)))))))))
end Mine
end
section
example : True := by
  w_top off
  trivial
open PySem PySem.W PyProof.Rows
namespace Mine
theorem st22_lit (w : World) : segRun treeTable pw w 39 annT 1 12700 (st_s22 w).abs (piecesOf bm envT (.body bdy envT) ps_s22 [topFrame pos0]) = some (.next, (st_s23 w).abs, .body bdy envT, ps_s23) := by
  have h := st22 w (oAt (tree_s22 w.params)) (subT (tree_s22 w.params)) os0
  have e1 : mk22 w.params (oAt (tree_s22 w.params)) (subT (tree_s22 w.params)) os0 = st_s22 w := congrFun m22_eq w
  have e2 : s23 w (oAt (tree_s22 w.params)) (subT (tree_s22 w.params)) os0 = st_s23 w := congrFun y22_eq w
  rw [e1, e2] at h
  exact h
theorem seg_of {w : World} {i k : Nat} {s s' : SharedT} {p p' : Pos} (h : segRunT treeTable pw w 39 annT 1 900 s (piecesOf ((bdy.drop i).take k) envT (.body bdy envT) p [topFrame pos0]) = some (.next, s', .body bdy envT, p')) :
    segRun treeTable pw w 39 annT 1 900 s.abs (piecesOf ((bdy.drop i).take k) envT (.body bdy envT) p [topFrame pos0]) = some (.next, s'.abs, .body bdy envT, p') := segRun_of h
theorem t_40 (w : World) : topRun treeTable pw w 39 annT 902 (st_s40 w).abs (restOf (((bdy.drop 40).take 19) ++ []) envT (.body bdy envT) ps_s40 [topFrame pos0]) = some (st_s59 w).abs := piece_app (rest := []) (N := 2) (seg_of (congrFun r_40 w)) (piece_nil (hF (st_s59 w).abs w ps_s59))
theorem t_33 (w : World) : topRun treeTable pw w 39 annT 1802 (st_s33 w).abs (restOf (((bdy.drop 33).take 7) ++ (((bdy.drop 40).take 19) ++ [])) envT (.body bdy envT) ps_s33 [topFrame pos0]) = some (st_s59 w).abs := piece_app (rest := (((bdy.drop 40).take 19) ++ [])) (N := 902) (seg_of (congrFun r_33 w)) (t_40 w)
theorem t_32 (w : World) : topRun treeTable pw w 39 annT 2702 (st_s32 w).abs (restOf (((bdy.drop 32).take 1) ++ (((bdy.drop 33).take 7) ++ (((bdy.drop 40).take 19) ++ []))) envT (.body bdy envT) ps_s32 [topFrame pos0]) = some (st_s59 w).abs := piece_app (rest := (((bdy.drop 33).take 7) ++ (((bdy.drop 40).take 19) ++ []))) (N := 1802) (seg_of (congrFun r_32 w)) (t_33 w)
theorem t_23 (w : World) : topRun treeTable pw w 39 annT 3602 (st_s23 w).abs (restOf (((bdy.drop 23).take 9) ++ (((bdy.drop 32).take 1) ++ (((bdy.drop 33).take 7) ++ (((bdy.drop 40).take 19) ++ [])))) envT (.body bdy envT) ps_s23 [topFrame pos0]) = some (st_s59 w).abs := piece_app (rest := (((bdy.drop 32).take 1) ++ (((bdy.drop 33).take 7) ++ (((bdy.drop 40).take 19) ++ [])))) (N := 2702) (seg_of (congrFun r_23 w)) (t_32 w)
theorem t_22 (w : World) : topRun treeTable pw w 39 annT 16302 (st_s22 w).abs (restOf (bm ++ (((bdy.drop 23).take 9) ++ (((bdy.drop 32).take 1) ++ (((bdy.drop 33).take 7) ++ (((bdy.drop 40).take 19) ++ []))))) envT (.body bdy envT) ps_s22 [topFrame pos0]) = some (st_s59 w).abs := piece_app (rest := (((bdy.drop 23).take 9) ++ (((bdy.drop 32).take 1) ++ (((bdy.drop 33).take 7) ++ (((bdy.drop 40).take 19) ++ []))))) (N := 3602) (st22_lit w) (t_23 w)
theorem t_18 (w : World) : topRun treeTable pw w 39 annT 17202 (st_s18 w).abs (restOf (((bdy.drop 18).take 4) ++ (bm ++ (((bdy.drop 23).take 9) ++ (((bdy.drop 32).take 1) ++ (((bdy.drop 33).take 7) ++ (((bdy.drop 40).take 19) ++ [])))))) envT (.body bdy envT) ps_s18 [topFrame pos0]) = some (st_s59 w).abs := piece_app (rest := (bm ++ (((bdy.drop 23).take 9) ++ (((bdy.drop 32).take 1) ++ (((bdy.drop 33).take 7) ++ (((bdy.drop 40).take 19) ++ [])))))) (N := 16302) (seg_of (congrFun r_18 w)) (t_22 w)
theorem t_15 (w : World) : topRun treeTable pw w 39 annT 18102 (st_s15 w).abs (restOf (((bdy.drop 15).take 3) ++ (((bdy.drop 18).take 4) ++ (bm ++ (((bdy.drop 23).take 9) ++ (((bdy.drop 32).take 1) ++ (((bdy.drop 33).take 7) ++ (((bdy.drop 40).take 19) ++ []))))))) envT (.body bdy envT) ps_s15 [topFrame pos0]) = some (st_s59 w).abs := piece_app (rest := (((bdy.drop 18).take 4) ++ (bm ++ (((bdy.drop 23).take 9) ++ (((bdy.drop 32).take 1) ++ (((bdy.drop 33).take 7) ++ (((bdy.drop 40).take 19) ++ []))))))) (N := 17202) (seg_of (congrFun r_15 w)) (t_18 w)
theorem t_0 (w : World) : topRun treeTable pw w 39 annT 19002 (st_s0 w).abs (restOf (((bdy.drop 0).take 15) ++ (((bdy.drop 15).take 3) ++ (((bdy.drop 18).take 4) ++ (bm ++ (((bdy.drop 23).take 9) ++ (((bdy.drop 32).take 1) ++ (((bdy.drop 33).take 7) ++ (((bdy.drop 40).take 19) ++ [])))))))) envT (.body bdy envT) ps_s0 [topFrame pos0]) = some (st_s59 w).abs := piece_app (rest := (((bdy.drop 15).take 3) ++ (((bdy.drop 18).take 4) ++ (bm ++ (((bdy.drop 23).take 9) ++ (((bdy.drop 32).take 1) ++ (((bdy.drop 33).take 7) ++ (((bdy.drop 40).take 19) ++ [])))))))) (N := 18102) (seg_of (congrFun r_0 w)) (t_15 w)
theorem parts : (((bdy.drop 0).take 15) ++ (((bdy.drop 15).take 3) ++ (((bdy.drop 18).take 4) ++ (bm ++ (((bdy.drop 23).take 9) ++ (((bdy.drop 32).take 1) ++ (((bdy.drop 33).take 7) ++ (((bdy.drop 40).take 19) ++ [])))))))) = bdy := by rfl
theorem t_all (w : World) : topRun treeTable pw w 39 annT 19002 (aL w) (restOf bdy envT (.body bdy envT) pos0 [topFrame pos0]) = some (vL w) := by
  have h := t_0 w
  rw [parts, abs_0, abs_f] at h
  exact h
theorem left_here {H : Hook} (hE : ∀ w, H.obs (vL w) = H.val w) : LeftO pw vw vloose vX H.obs H.val 34728 false :=
  left_gen (p := pw) (n1 := 988) (m0 := 39) (k0 := 12) (R := 19002) (ann := annT) (b := bdy) (env := envT) (q := pos0) (z := zL) (a := aL) (v := vL)
    startOk_t (by decide) (by decide) (fun w => congrFun open_eq w) (fun w => congrFun stub_eq w) (fun w => congrFun ns_t w) hB t_all (fun w => congrFun stat_t w) seen_t hE
end Mine
set_option hygiene false in
local macro_rules | `(tactic| o_head $H) => `(tactic| (refine holds_openN (q := Mine.vw) (loose := Mine.vloose) (Xt := Mine.vX) (XP := XL Mine.vw []) (Yf := Hook.obs $H) (Ya := Hook.val $H) (YP := Hook.says $H) (N := 34728) ?hl (Hook.of $H) (Hook.keeps $H) (fun s e => xl_of s (Bool.and_eq_true_iff.mp e).1) XL.keeps (by rfl) (by rfl) (by rfl) (fun s e => recFacts_of (Bool.and_eq_true_iff.mp e).2) (by rfl) (by first | assumption | decide +kernel) (by decide +kernel) ⟨rfl, rfl, rfl, rfl, rfl, by decide +kernel⟩ ?hw ?hc; (case hl => (refine Mine.left_here ?hE; (have lay7 : (fun (_ : Params → Frag) => true) Mine.hd.heap_39 = true := by k_qdec); intro w; dsimp only [kHook]; rw [PySem.W.Fast.te17892608892905677811, PySem.W.Fast.te8075568018651887793]; kernel_rfl))))

set_option maxHeartbeats 0 in
open_top Mine.hd for PySem.Challenge.rw_vn0015_01
end
section
example : True := by
  w_top off
  trivial
open PySem PySem.W PyProof.Rows
namespace Mine

/-- the number that the figures write in base B -/
def val (B : Int) (ks : List Int) : Int := ks.foldl (fun v k => v * B + k) 0

theorem foldl_val (B : Int) : ∀ (ks : List Int) (a : Int), ks.foldl (fun v k => v * B + k) a = a * B ^ ks.length + val B ks
  | [], a => by simp [val]
  | k :: r, a => by
    have h1 := foldl_val B r (a * B + k)
    have h2 := foldl_val B r (0 * B + k)
    have e : val B (k :: r) = r.foldl (fun v k => v * B + k) (0 * B + k) := rfl
    rw [List.foldl_cons, h1, e, h2, List.length_cons, Int.pow_succ, Int.add_mul, Int.zero_mul, Int.zero_add]
    have e2 : a * (B ^ r.length * B) = a * B * B ^ r.length := by
      rw [Int.mul_comm (B ^ r.length) B, Int.mul_assoc]
    rw [e2]; omega
theorem val_nil (B : Int) : val B [] = 0 := rfl
theorem val_append (B : Int) (xs ys : List Int) : val B (xs ++ ys) = val B xs * B ^ ys.length + val B ys := by
  show (xs ++ ys).foldl _ 0 = _
  rw [List.foldl_append]
  exact foldl_val B ys _
theorem val_snoc (B : Int) (xs : List Int) (k : Int) : val B (xs ++ [k]) = val B xs * B + k := by
  show (xs ++ [k]).foldl _ 0 = _
  rw [List.foldl_append]; rfl
theorem val_cons (B : Int) (k : Int) (xs : List Int) : val B (k :: xs) = k * B ^ xs.length + val B xs := by
  have := val_append B [k] xs
  have e : val B [k] = k := by simp [val]
  rw [e] at this
  exact this

/-- figures of base B -/
def Figs (B : Int) (ks : List Int) : Prop := ∀ k ∈ ks, 0 ≤ k ∧ k < B

theorem Figs.nil (B : Int) : Figs B [] := fun _ h => nomatch h
theorem Figs.app {B : Int} {xs ys : List Int} (hx : Figs B xs) (hy : Figs B ys) : Figs B (xs ++ ys) := fun k hk => (List.mem_append.mp hk).elim (hx k) (hy k)
theorem Figs.one {B k : Int} (h0 : 0 ≤ k) (h1 : k < B) : Figs B [k] := fun x hx => by rw [List.mem_singleton.mp hx]; exact ⟨h0, h1⟩
theorem Figs.left {B : Int} {xs ys : List Int} (h : Figs B (xs ++ ys)) : Figs B xs := fun k hk => h k (List.mem_append_left _ hk)
theorem Figs.right {B : Int} {xs ys : List Int} (h : Figs B (xs ++ ys)) : Figs B ys := fun k hk => h k (List.mem_append_right _ hk)
theorem Figs.head {B k : Int} {xs : List Int} (h : Figs B (k :: xs)) : 0 ≤ k ∧ k < B := h k (List.mem_cons_self)
theorem Figs.tail {B k : Int} {xs : List Int} (h : Figs B (k :: xs)) : Figs B xs := fun x hx => h x (List.mem_cons_of_mem _ hx)

theorem pow_pos' {B : Int} (hB : 0 < B) : ∀ n : Nat, 0 < B ^ n
  | 0 => by simp
  | n + 1 => by rw [Int.pow_succ]; exact Int.mul_pos (pow_pos' hB n) hB

theorem val_range {B : Int} (hB : 0 < B) : ∀ {ks : List Int}, Figs B ks → 0 ≤ val B ks ∧ val B ks < B ^ ks.length
  | [], _ => by simp [val]
  | k :: r, h => by
    obtain ⟨h0, h1⟩ := val_range hB h.tail
    obtain ⟨k0, k1⟩ := h.head
    have hp := pow_pos' hB r.length
    rw [val_cons, List.length_cons, Int.pow_succ]
    constructor
    · have := Int.mul_nonneg k0 (Int.le_of_lt hp); omega
    · have h2 : (k + 1) * B ^ r.length ≤ B * B ^ r.length := Int.mul_le_mul_of_nonneg_right (by omega) (Int.le_of_lt hp)
      rw [Int.add_mul, Int.one_mul] at h2
      rw [Int.mul_comm (B ^ r.length) B]
      omega

/-- one number, one writing of a given length -/
theorem val_unique {B : Int} (hB : 0 < B) : ∀ {xs ys : List Int}, Figs B xs → Figs B ys → xs.length = ys.length → val B xs = val B ys → xs = ys
  | [], [], _, _, _, _ => rfl
  | [], _ :: _, _, _, h, _ => by simp at h
  | _ :: _, [], _, _, h, _ => by simp at h
  | x :: xs, y :: ys, hx, hy, hl, hv => by
    have hl' : xs.length = ys.length := by simpa using hl
    obtain ⟨a0, a1⟩ := val_range hB hx.tail
    obtain ⟨b0, b1⟩ := val_range hB hy.tail
    rw [val_cons, val_cons, hl'] at hv
    rw [hl'] at a1
    have hp := pow_pos' hB ys.length
    have hxy : x = y := by
      have e1 : (x * B ^ ys.length + val B xs) / B ^ ys.length = x := by
        rw [Int.add_comm, Int.add_mul_ediv_right _ _ (Int.ne_of_gt hp), Int.ediv_eq_zero_of_lt a0 a1, Int.zero_add]
      have e2 : (y * B ^ ys.length + val B ys) / B ^ ys.length = y := by
        rw [Int.add_comm, Int.add_mul_ediv_right _ _ (Int.ne_of_gt hp), Int.ediv_eq_zero_of_lt b0 b1, Int.zero_add]
      rw [← e1, ← e2, hv]
    subst hxy
    have : val B xs = val B ys := by omega
    rw [val_unique hB hx.tail hy.tail hl' this]

theorem val_zeros (B : Int) : ∀ n : Nat, val B (List.replicate n 0) = 0
  | 0 => rfl
  | n + 1 => by rw [List.replicate_succ, val_cons, val_zeros B n]; simp
theorem val_zeros_app (B : Int) (n : Nat) (xs : List Int) : val B (List.replicate n 0 ++ xs) = val B xs := by
  rw [val_append, val_zeros]; simp

end Mine
end
section
example : True := by
  w_top off
  trivial
open PySem PySem.W PyProof.Rows
namespace Mine
noncomputable abbrev KK (w : World) : Frag := Mine.hd.heap_39 w.params
abbrev PP : Program := PySem.Challenge.pw_vn0015_01
end Mine
end
section
example : True := by
  w_top off
  trivial
open PySem PySem.W PyProof.Rows
namespace Mine

theorem two_pos (n : Nat) : (0 : Int) < 2 ^ n := pow_pos' (by decide) n
theorem two_add (a b : Nat) : (2 : Int) ^ (a + b) = 2 ^ a * 2 ^ b := Int.pow_add 2 a b

/-- low bits of low bits -/
theorem emod_emod_pow {x : Int} {a b : Nat} (h : b ≤ a) : x % 2 ^ a % 2 ^ b = x % 2 ^ b := by
  refine Int.emod_emod_of_dvd x ?_
  exact ⟨2 ^ (a - b), by rw [← two_add]; congr 1; omega⟩

theorem fdiv_pow (x : Int) (n : Nat) : x.fdiv (2 ^ n) = x / 2 ^ n := Int.fdiv_eq_ediv_of_nonneg x (Int.le_of_lt (two_pos n))

theorem bitOr_add {a x : Int} {n : Nat} (h0 : 0 ≤ a) (x0 : 0 ≤ x) (x1 : x < 2 ^ n) : Builtin.bitOr (a * 2 ^ n) x = a * 2 ^ n + x := by
  obtain ⟨A, rfl⟩ := Int.eq_ofNat_of_zero_le h0
  obtain ⟨X, rfl⟩ := Int.eq_ofNat_of_zero_le x0
  have hX : X < 2 ^ n := by
    have : ((X : Nat) : Int) < ((2 ^ n : Nat) : Int) := by rw [kbt_cast]; exact x1
    omega
  have e : Builtin.bitOr ((A : Int) * 2 ^ n) (X : Int) = ((A * 2 ^ n ||| X : Nat) : Int) := by
    have h1 : ((A : Int) * 2 ^ n) = ((A * 2 ^ n : Nat) : Int) := by rw [← kbt_cast]; push_cast; rfl
    rw [h1]
    generalize A * 2 ^ n = Y
    show Builtin.bitNot (Builtin.bitAnd (Builtin.bitNot (Y : Int)) (Builtin.bitNot (X : Int))) = _
    have n1 : decide (0 ≤ Builtin.bitNot (Y : Int)) = false := by show decide (0 ≤ -(Y : Int) - 1) = false; rw [decide_eq_false]; omega
    have n2 : decide (0 ≤ Builtin.bitNot (X : Int)) = false := by show decide (0 ≤ -(X : Int) - 1) = false; rw [decide_eq_false]; omega
    have n3 : ∀ Z : Int, Builtin.bitNot (Builtin.bitNot Z) = Z := fun Z => by show -(-Z - 1) - 1 = Z; omega
    unfold Builtin.bitAnd
    rw [n1, n2]
    show Builtin.bitNot (Builtin.bitNot (((Builtin.bitNot (Builtin.bitNot (Y : Int))).toNat ||| (Builtin.bitNot (Builtin.bitNot (X : Int))).toNat : Nat) : Int)) = _
    rw [n3, n3, n3]; rfl
  rw [e]
  have h2 : A * 2 ^ n ||| X = A * 2 ^ n + X := by
    rw [Nat.mul_comm A, Nat.two_pow_add_eq_or_of_lt hX]
  rw [h2]
  push_cast
  rfl

theorem mask_eq {x : Int} {n : Nat} (_ : True) : Builtin.bitAnd x (1 * 2 ^ n - 1) = x % 2 ^ n := by rw [Int.one_mul, kbt_mask]

/-- between two items of the data -/
def Inv (f u : Int) (pre : List Int) (acc bits : Int) (ret : List Int) : Prop :=
  Figs (2 ^ f.toNat) pre ∧ acc = val (2 ^ f.toNat) pre % 2 ^ (f + u - 1).toNat ∧ 0 ≤ bits ∧ bits < u ∧ Figs (2 ^ u.toNat) ret ∧ bits + u * ret.length = f * pre.length ∧ val (2 ^ u.toNat) ret = val (2 ^ f.toNat) pre / 2 ^ bits.toNat

/-- while groups go out: V the number taken so far, of n items -/
def InvW (f u : Int) (V : Int) (n : Nat) (bits : Int) (ret : List Int) : Prop :=
  0 ≤ bits ∧ bits ≤ f + u - 1 ∧ Figs (2 ^ u.toNat) ret ∧ bits + u * ret.length = f * n ∧ val (2 ^ u.toNat) ret = V / 2 ^ bits.toNat

section
variable {f u : Int} {pre ret : List Int} {acc bits x V : Int} {n : Nat}

theorem pow_small (hf : 1 ≤ f) (hf' : f ≤ 9) (hu : 1 ≤ u) (hu' : u ≤ 9) : (2 : Int) ^ (f + u - 1).toNat ≤ 131072 := by
  have h : (f + u - 1).toNat ≤ 17 := by omega
  have e : (2 : Int) ^ 17 = 131072 := by decide
  rw [← e, ← kbt_cast, ← kbt_cast]
  exact Int.ofNat_le.mpr (Nat.pow_le_pow_right (by decide) h)
theorem inv_start (hf : 1 ≤ f) (hu : 1 ≤ u) : Inv f u [] 0 0 [] := by
  refine ⟨.nil _, ?_, Int.le_refl _, by omega, .nil _, by simp, ?_⟩
  · rw [val_nil]; simp
  · rw [val_nil, val_nil]; simp

theorem out_of (x0 : 0 ≤ x) (hq : x.fdiv (2 ^ f.toNat) = 0) : x < 2 ^ f.toNat := by
  rw [fdiv_pow] at hq
  have h1 := Int.emod_add_mul_ediv x (2 ^ f.toNat)
  have h2 := Int.emod_lt_of_pos x (two_pos f.toNat)
  rw [hq, Int.mul_zero] at h1
  omega
theorem out_not (x0 : 0 ≤ x) (hq : x.fdiv (2 ^ f.toNat) ≠ 0) : 2 ^ f.toNat ≤ x := by
  rw [fdiv_pow] at hq
  by_cases h : x < 2 ^ f.toNat
  · exact absurd (Int.ediv_eq_zero_of_lt x0 h) hq
  · omega

theorem acc_step (hf : 1 ≤ f) (hu : 1 ≤ u) (h : Inv f u pre acc bits ret) (x0 : 0 ≤ x) (x1 : x < 2 ^ f.toNat) :
    Builtin.bitAnd (Builtin.bitOr (acc * 2 ^ f.toNat) x) (1 * 2 ^ (f + u - 1).toNat - 1) = val (2 ^ f.toNat) (pre ++ [x]) % 2 ^ (f + u - 1).toNat := by
  obtain ⟨h1, h2, _⟩ := h
  have a0 : 0 ≤ acc := by rw [h2]; exact Int.emod_nonneg _ (Int.ne_of_gt (two_pos _))
  rw [bitOr_add a0 x0 x1, mask_eq trivial, val_snoc, h2, Int.add_emod, Int.mul_emod, Int.emod_emod_of_dvd _ (Int.dvd_refl _), ← Int.mul_emod, ← Int.add_emod]

theorem inv_enter (hf : 1 ≤ f) (hu : 1 ≤ u) (h : Inv f u pre acc bits ret) (x0 : 0 ≤ x) (x1 : x < 2 ^ f.toNat) : InvW f u (val (2 ^ f.toNat) (pre ++ [x])) (pre.length + 1) (bits + f) ret := by
  obtain ⟨h1, h2, h3, h4, h5, h6, h7⟩ := h
  refine ⟨by omega, by omega, h5, ?_, ?_⟩
  · rw [Int.natCast_add, Int.mul_add]; omega
  · have e : (bits + f).toNat = f.toNat + bits.toNat := by omega
    rw [h7, e, two_add, val_snoc, ← Int.ediv_ediv_of_nonneg (Int.le_of_lt (two_pos _))]
    congr 1
    rw [Int.add_comm, Int.add_mul_ediv_right _ _ (Int.ne_of_gt (two_pos _)), Int.ediv_eq_zero_of_lt x0 x1, Int.zero_add]

theorem mod_div {V A B : Int} (hA : 0 < A) (hB : 0 < B) : V % (A * B) / A = V / A % B := by
  have h1 := Int.emod_add_mul_ediv V A
  have h2 := Int.emod_add_mul_ediv (V / A) B
  have s0 := Int.emod_nonneg V (Int.ne_of_gt hA)
  have s1 := Int.emod_lt_of_pos V hA
  have r0 := Int.emod_nonneg (V / A) (Int.ne_of_gt hB)
  have r1 := Int.emod_lt_of_pos (V / A) hB
  have hAB : 0 < A * B := Int.mul_pos hA hB
  have e : V % (A * B) = V / A % B * A + V % A := by
    refine ((Int.ediv_emod_unique hAB (q := V / A / B)).mpr ⟨?_, ?_, ?_⟩).2
    · have e1 : A * B * (V / A / B) = A * (B * (V / A / B)) := Int.mul_assoc _ _ _
      have e2 : A * (V / A) = A * (V / A % B) + A * (B * (V / A / B)) := by rw [← Int.mul_add, h2]
      rw [e1, Int.mul_comm (V / A % B) A]
      omega
    · have := Int.mul_nonneg r0 (Int.le_of_lt hA); omega
    · have h3 : (V / A % B + 1) * A ≤ B * A := Int.mul_le_mul_of_nonneg_right (by omega) (Int.le_of_lt hA)
      rw [Int.add_mul, Int.one_mul] at h3
      rw [Int.mul_comm A B]
      omega
  rw [e, Int.add_comm, Int.add_mul_ediv_right _ _ (Int.ne_of_gt hA), Int.ediv_eq_zero_of_lt s0 s1, Int.zero_add]

/-- the group that goes out -/
theorem group_eq (hu : 1 ≤ u) (hb : u ≤ bits) (hb2 : bits ≤ f + u - 1) : Builtin.bitAnd ((V % 2 ^ (f + u - 1).toNat).fdiv (2 ^ (bits - u).toNat)) (1 * 2 ^ u.toNat - 1) = V / 2 ^ (bits - u).toNat % 2 ^ u.toNat := by
  rw [mask_eq trivial, fdiv_pow]
  have e : (2 : Int) ^ (f + u - 1).toNat = 2 ^ (bits - u).toNat * 2 ^ ((f + u - 1).toNat - (bits - u).toNat) := by
    rw [← two_add]; congr 1; omega
  have hle : u.toNat ≤ (f + u - 1).toNat - (bits - u).toNat := by omega
  rw [e, mod_div (two_pos _) (two_pos _)]
  exact emod_emod_pow hle

theorem inv_turn (hu : 1 ≤ u) (h : InvW f u V n bits ret) (hb : u ≤ bits) :
    InvW f u V n (bits - u) (ret ++ [Builtin.bitAnd ((V % 2 ^ (f + u - 1).toNat).fdiv (2 ^ (bits - u).toNat)) (1 * 2 ^ u.toNat - 1)]) := by
  obtain ⟨h1, h2, h3, h4, h5⟩ := h
  rw [group_eq hu hb h2]
  have g0 := Int.emod_nonneg (V / 2 ^ (bits - u).toNat) (Int.ne_of_gt (two_pos u.toNat))
  have g1 := Int.emod_lt_of_pos (V / 2 ^ (bits - u).toNat) (two_pos u.toNat)
  refine ⟨by omega, by omega, h3.app (.one g0 g1), ?_, ?_⟩
  · rw [List.length_append, List.length_singleton, Int.natCast_add, Int.mul_add]; omega
  · rw [val_snoc, h5]
    have e : bits.toNat = (bits - u).toNat + u.toNat := by omega
    rw [e, two_add, ← Int.ediv_ediv_of_nonneg (Int.le_of_lt (two_pos _))]
    have := Int.emod_add_mul_ediv (V / 2 ^ (bits - u).toNat) (2 ^ u.toNat)
    rw [Int.mul_comm (V / 2 ^ (bits - u).toNat / 2 ^ u.toNat)]
    omega

theorem inv_leave (hp : Figs (2 ^ f.toNat) (pre ++ [x])) (h : InvW f u (val (2 ^ f.toNat) (pre ++ [x])) (pre.length + 1) bits ret) (hb : bits < u) :
    Inv f u (pre ++ [x]) (val (2 ^ f.toNat) (pre ++ [x]) % 2 ^ (f + u - 1).toNat) bits ret := by
  obtain ⟨h1, h2, h3, h4, h5⟩ := h
  exact ⟨hp, rfl, h1, hb, h3, by rw [List.length_append, List.length_singleton]; exact h4, h5⟩

/-- what the words say -/
def IW (f u : Int) (pre : List Int) (acc bits : Int) (ret : List Int) : Prop := Inv f u pre acc bits ret ∧ 0 ≤ bits ∧ bits < u ∧ 0 ≤ acc ∧ acc < 131072 ∧ ret.length ≤ 1000
def WW (f u : Int) (V : Int) (n : Nat) (acc bits : Int) (ret : List Int) : Prop := InvW f u V n bits ret ∧ acc = V % 2 ^ (f + u - 1).toNat ∧ 0 ≤ bits ∧ bits ≤ 18 ∧ 0 ≤ acc ∧ acc < 131072 ∧ ret.length ≤ 1000

abbrev IX (f u : Int) (pre : List Int) (acc bits : Int) (ret : List Int) : Prop := IW f u pre acc bits ret ∧ 0 ≤ bits ∧ bits < u ∧ 0 ≤ acc ∧ acc < 131072 ∧ ret.length ≤ 1000
abbrev WX (f u : Int) (V : Int) (n : Nat) (acc bits : Int) (ret : List Int) : Prop := WW f u V n acc bits ret ∧ 0 ≤ bits ∧ bits ≤ 18 ∧ 0 ≤ acc ∧ acc < 131072 ∧ ret.length ≤ 1000
theorem IW.inv (h : IW f u pre acc bits ret) : Inv f u pre acc bits ret := h.1
theorem ix (h : IW f u pre acc bits ret) : IX f u pre acc bits ret := ⟨h, h.2⟩
theorem wx (h : WW f u V n acc bits ret) : WX f u V n acc bits ret := ⟨h, h.2.2⟩
theorem lenW (hf' : f ≤ 9) (hu : 1 ≤ u) (hn : n ≤ 101) (h0 : 0 ≤ bits) (h : bits + u * ret.length = f * n) : ret.length ≤ 1000 := by
  have h1 : 1 * (ret.length : Int) ≤ u * ret.length := Int.mul_le_mul_of_nonneg_right hu (by omega)
  have h2 : f * (n : Int) ≤ 9 * n := Int.mul_le_mul_of_nonneg_right hf' (by omega)
  omega

theorem iw_start (hf : 1 ≤ f) (hu : 1 ≤ u) : IW f u [] 0 0 [] := ⟨inv_start hf hu, by omega, by omega, by omega, by omega, by simp⟩
theorem ww_enter (hf : 1 ≤ f) (hf' : f ≤ 9) (hu : 1 ≤ u) (hu' : u ≤ 9) (hl : pre.length ≤ 100) (h : IW f u pre acc bits ret) (x0 : 0 ≤ x) (hq : x.fdiv (2 ^ f.toNat) = 0) :
    WW f u (val (2 ^ f.toNat) (pre ++ [x])) (pre.length + 1) (Builtin.bitAnd (Builtin.bitOr (acc * 2 ^ f.toNat) x) (1 * 2 ^ (f + u - 1).toNat - 1)) (bits + f) ret := by
  have x1 := out_of x0 hq
  have hw := inv_enter hf hu h.1 x0 x1
  have hp := pow_small hf hf' hu hu'
  rw [acc_step hf hu h.1 x0 x1]
  have m0 := Int.emod_nonneg (val (2 ^ f.toNat) (pre ++ [x])) (Int.ne_of_gt (two_pos (f + u - 1).toNat))
  have m1 := Int.emod_lt_of_pos (val (2 ^ f.toNat) (pre ++ [x])) (two_pos (f + u - 1).toNat)
  obtain ⟨_, a1, a2, _⟩ := h
  exact ⟨hw, rfl, by omega, by omega, m0, by omega, lenW hf' hu (by omega) hw.1 hw.2.2.2.1⟩
theorem ww_turn (hf' : f ≤ 9) (hu : 1 ≤ u) (hn : n ≤ 101) (h : WW f u V n acc bits ret) (hb : u ≤ bits) :
    WW f u V n acc (bits - u) (ret ++ [Builtin.bitAnd (acc.fdiv (2 ^ (bits - u).toNat)) (1 * 2 ^ u.toNat - 1)]) := by
  obtain ⟨h1, h2, h3, h4, h5, h6, h7⟩ := h
  have ht := inv_turn hu h1 hb
  rw [← h2] at ht
  exact ⟨ht, h2, by omega, by omega, h5, h6, lenW hf' hu hn ht.1 ht.2.2.2.1⟩
theorem iw_leave {acc0 bits0 : Int} {ret0 : List Int} (hu : 1 ≤ u) (h0 : IW f u pre acc0 bits0 ret0) (x0 : 0 ≤ x) (hq : x.fdiv (2 ^ f.toNat) = 0) (h : WW f u (val (2 ^ f.toNat) (pre ++ [x])) (pre.length + 1) acc bits ret) (hb : bits < u) : IW f u (pre ++ [x]) acc bits ret := by
  obtain ⟨h1, h2, h3, h4, h5, h6, h7⟩ := h
  have hi := inv_leave (h0.1.1.app (.one x0 (out_of x0 hq))) h1 hb
  rw [← h2] at hi
  exact ⟨hi, h3, hb, h5, h6, h7⟩

/-- what a call tells: none or the groups -/
def CB (f u : Int) (pad : Bool) (xs : List Int) : Option (List Int) → Prop
  | none => (∃ x ∈ xs, x < 0 ∨ 2 ^ f.toNat ≤ x) ∨ (pad = false ∧ (f ≤ f * xs.length % u ∨ val (2 ^ f.toNat) xs % 2 ^ (f * xs.length % u).toNat ≠ 0))
  | some ys => Figs (2 ^ f.toNat) xs ∧ Figs (2 ^ u.toNat) ys ∧
    (if pad = true then ∃ e : Nat, u * ys.length = f * xs.length + e ∧ (e : Int) < u ∧ val (2 ^ u.toNat) ys = val (2 ^ f.toNat) xs * 2 ^ e
     else ∃ e : Nat, f * xs.length = u * ys.length + e ∧ (e : Int) < u ∧ (e : Int) < f ∧ val (2 ^ f.toNat) xs = val (2 ^ u.toNat) ys * 2 ^ e)

theorem cb_out (hx : x < 0 ∨ 2 ^ f.toNat ≤ x) {pad : Bool} {post : List Int} : CB f u pad (pre ++ x :: post) none := .inl ⟨x, by simp, hx⟩

theorem cb_pad0 (h : Inv f u pre acc 0 ret) : CB f u true pre (some ret) := by
  obtain ⟨h1, h2, h3, h4, h5, h6, h7⟩ := h
  refine ⟨h1, h5, ?_⟩
  rw [if_pos rfl]
  refine ⟨0, by omega, by omega, ?_⟩
  rw [h7]; simp

theorem cb_pad0' (h : Inv f u pre acc bits ret) (hb : bits = 0) : CB f u true pre (some ret) := by
  subst hb
  exact cb_pad0 h
theorem last_eq (hf : 1 ≤ f) (h : Inv f u pre acc bits ret) : Builtin.bitAnd (acc * 2 ^ (u - bits).toNat) (1 * 2 ^ u.toNat - 1) = val (2 ^ f.toNat) pre % 2 ^ bits.toNat * 2 ^ (u - bits).toNat := by
  obtain ⟨h1, h2, h3, h4, h5, h6, h7⟩ := h
  rw [mask_eq trivial]
  have e : (2 : Int) ^ u.toNat = 2 ^ bits.toNat * 2 ^ (u - bits).toNat := by rw [← two_add]; congr 1; omega
  rw [e, Int.mul_comm acc, Int.mul_comm (2 ^ bits.toNat), Int.mul_emod_mul_of_pos _ _ (two_pos _), h2, emod_emod_pow (by omega), Int.mul_comm]

theorem cb_pad (hf : 1 ≤ f) (h : Inv f u pre acc bits ret) (hb : bits ≠ 0) : CB f u true pre (some (ret ++ [Builtin.bitAnd (acc * 2 ^ (u - bits).toNat) (1 * 2 ^ u.toNat - 1)])) := by
  rw [last_eq hf h]
  obtain ⟨h1, h2, h3, h4, h5, h6, h7⟩ := h
  have m0 := Int.emod_nonneg (val (2 ^ f.toNat) pre) (Int.ne_of_gt (two_pos bits.toNat))
  have m1 := Int.emod_lt_of_pos (val (2 ^ f.toNat) pre) (two_pos bits.toNat)
  have e : (2 : Int) ^ u.toNat = 2 ^ bits.toNat * 2 ^ (u - bits).toNat := by rw [← two_add]; congr 1; omega
  have hp := two_pos (u - bits).toNat
  refine ⟨h1, h5.app (.one (Int.mul_nonneg m0 (Int.le_of_lt hp)) ?_), ?_⟩
  · rw [e]; exact Int.mul_lt_mul_of_pos_right m1 hp
  · rw [if_pos rfl]
    refine ⟨(u - bits).toNat, ?_, by omega, ?_⟩
    · rw [List.length_append, List.length_singleton, Int.natCast_add, Int.mul_add]; omega
    · rw [val_snoc, h7, e, ← Int.mul_assoc, ← Int.add_mul]
      congr 1
      have := Int.emod_add_mul_ediv (val (2 ^ f.toNat) pre) (2 ^ bits.toNat)
      rw [Int.mul_comm (val (2 ^ f.toNat) pre / 2 ^ bits.toNat)]
      omega

theorem bits_is (h : Inv f u pre acc bits ret) : f * pre.length % u = bits := by
  obtain ⟨h1, h2, h3, h4, h5, h6, h7⟩ := h
  rw [← h6, Int.add_mul_emod_self_left]
  exact Int.emod_eq_of_lt h3 h4

theorem cb_no1 (h : Inv f u pre acc bits ret) (hb : f ≤ bits) : CB f u false pre none := .inr ⟨rfl, .inl (by rw [bits_is h]; exact hb)⟩
theorem cb_no2 (hf : 1 ≤ f) (h : Inv f u pre acc bits ret) (hz : Builtin.bitAnd (acc * 2 ^ (u - bits).toNat) (1 * 2 ^ u.toNat - 1) ≠ 0) : CB f u false pre none := by
  refine .inr ⟨rfl, .inr ?_⟩
  rw [bits_is h]
  rw [last_eq hf h] at hz
  intro h0
  rw [h0, Int.zero_mul] at hz
  exact hz rfl
theorem cb_yes (hf : 1 ≤ f) (h : Inv f u pre acc bits ret) (hb : bits < f) (hz : Builtin.bitAnd (acc * 2 ^ (u - bits).toNat) (1 * 2 ^ u.toNat - 1) = 0) : CB f u false pre (some ret) := by
  rw [last_eq hf h] at hz
  obtain ⟨h1, h2, h3, h4, h5, h6, h7⟩ := h
  have h0 : val (2 ^ f.toNat) pre % 2 ^ bits.toNat = 0 := by
    rcases Int.mul_eq_zero.mp hz with q | q
    · exact q
    · exact absurd q (Int.ne_of_gt (two_pos _))
  refine ⟨h1, h5, ?_⟩
  rw [if_neg (by decide)]
  refine ⟨bits.toNat, by omega, by omega, by omega, ?_⟩
  have := Int.emod_add_mul_ediv (val (2 ^ f.toNat) pre) (2 ^ bits.toNat)
  rw [h7, Int.mul_comm (val (2 ^ f.toNat) pre / 2 ^ bits.toNat)]
  omega

theorem lenEq {a b e e' : Nat} (hu : 1 ≤ u) (h1 : (e : Int) < u) (h2 : (e' : Int) < u) (h : u * a - e = u * b - e') : a = b := by
  rcases Nat.lt_trichotomy a b with q | q | q
  · exfalso
    have h3 : u * ((a : Int) + 1) ≤ u * b := Int.mul_le_mul_of_nonneg_left (by omega) (by omega)
    rw [Int.mul_add, Int.mul_one] at h3
    omega
  · exact q
  · exfalso
    have h3 : u * ((b : Int) + 1) ≤ u * a := Int.mul_le_mul_of_nonneg_left (by omega) (by omega)
    rw [Int.mul_add, Int.mul_one] at h3
    omega
/-- one call's answer is the other's -/
theorem cb_unique (hf : 1 ≤ f) (hu : 1 ≤ u) {pad : Bool} {xs : List Int} : ∀ {r r' : Option (List Int)}, CB f u pad xs r → CB f u pad xs r' → r = r' := by
  have mixed : ∀ {ys}, CB f u pad xs none → CB f u pad xs (some ys) → False := by
    rintro ys (⟨x, hx, ho⟩ | ⟨rfl, hn⟩) ⟨h1, h2, h3⟩
    · have := h1 x hx; omega
    · rw [if_neg (by decide)] at h3
      obtain ⟨e, e1, e2, e3, e4⟩ := h3
      have hb : f * xs.length % u = e := by
        rw [e1, Int.add_comm, Int.add_mul_emod_self_left]
        exact Int.emod_eq_of_lt (by omega) e2
      rcases hn with hn | hn
      · omega
      · rw [hb, e4] at hn
        exact hn (by rw [Int.toNat_natCast]; exact Int.mul_emod_left _ _)
  intro r r' h h'
  cases r with
  | none => cases r' with
    | none => rfl
    | some ys => exact (mixed h h').elim
  | some xs' => cases r' with
    | none => exact (mixed h' h).elim
    | some ys =>
      obtain ⟨a1, a2, a3⟩ := h
      obtain ⟨b1, b2, b3⟩ := h'
      congr 1
      cases pad with
      | true =>
        rw [if_pos rfl] at a3 b3
        obtain ⟨e, e1, e2, e3⟩ := a3
        obtain ⟨e', g1, g2, g3⟩ := b3
        have hl : xs'.length = ys.length := by
          have h1 : u * xs'.length - e = u * ys.length - e' := by omega
          have h2 := lenEq (a := xs'.length) (b := ys.length) (e := e) (e' := e') hu e2 g2 h1
          exact h2
        have he : e = e' := by rw [hl] at e1; omega
        subst he
        exact val_unique (two_pos _) a2 b2 hl (e3.trans g3.symm)
      | false =>
        rw [if_neg (by decide)] at a3 b3
        obtain ⟨e, e1, e2, e3, e4⟩ := a3
        obtain ⟨e', g1, g2, g3, g4⟩ := b3
        have hl : xs'.length = ys.length := by
          have h1 : u * ys.length - e = u * xs'.length - e' := by omega
          exact (lenEq (a := ys.length) (b := xs'.length) (e := e) (e' := e') hu e2 g2 h1).symm
        have he : e = e' := by rw [hl] at e1; omega
        subst he
        refine val_unique (two_pos _) a2 b2 hl ?_
        have hm := e4.symm.trans g4
        exact Int.eq_of_mul_eq_mul_right (Int.ne_of_gt (two_pos e)) hm
end
end Mine
end
section
example : True := by
  w_top off
  trivial
open PySem PySem.W PyProof.Rows PySem.Calls
namespace Mine
section
variable {prog : Program} {w : World} {M : Model} {A : Around} {E : Value → Shared → Prop} {s : Shared} {h₀ : Heap} {L : Addr} {m : PySem.Str → Option Value} {news : List (Addr × Obj)}

theorem ne_size {h : Heap} {d : Addr} {o : Obj} (N : News h₀ L h news) (hm : (d, o) ∈ news) : h.objs.size ≠ d := Nat.ne_of_gt (Heap.lt_size (N _ hm).1)
theorem divmod_D {a b : Int} {t u : Tok} {Q : Value → Shared → Prop} (F : Fr h₀ L s.heap m) (N : News h₀ L s.heap news) (hb : b ≠ 0)
    (h : ∀ D h' t1 t2 k, Fr h₀ L h' m → News h₀ L h' ((D, ({ cls := .type "tuple", data := .seq #[.int (a.fdiv b) t1, .int (a.fmod b) t2] } : Obj)) :: news) → (∀ p ∈ news, p.1 < D) → Q (.ref D) { s with toks := k, heap := h' })
    (hp : Builtin.divisionGoesByPylong a b = false) : wpAny (model prog w) A (call (.builtin "divmod") [.int a t, .int b u]) Q E s :=
  divmod_N F N hb (fun h' F' N' => h _ h' _ _ _ F' N' fun p hp => Heap.lt_size (N p hp).1) (.inl hp)
theorem grown_any {n : Nat} {Q : Value → Shared → Prop} (hn : n < 2 ^ 128) (h : Q (.int (n : Int) s.toks) { s with toks := s.toks + 1 }) : wpAny M A (mkIntGrown (n : Int)) Q E s := by
  have hb : bitsLine = 134217728 := by first | rfl | decide
  have hl : ¬ ((n : Int).natAbs.log2 ≥ bitsLine) := by
    rw [Int.natAbs_natCast, hb]
    by_cases hz : n = 0
    · rw [hz]; decide
    · have := (Nat.log2_lt hz).mpr hn; omega
  unfold mkIntGrown
  rw [if_neg hl]
  exact wpAny_mkInt h

theorem from_big {b : Array UInt8} {t u : Tok} {P : Fin → Shared → Prop} (hl : b.size ≤ 16) (h : P (.done (.ret (.int (KFB.value (KBw.bInts b)) s.toks))) { s with toks := s.toks + 1 }) :
    wpAny M A (Builtin.«int.from_bytes» ⟨[.type "int", .bytes b t, .str (PySem.Str.ofString "big") u], []⟩) P E s := by
  have hn : b.toList.foldl (fun (acc : Nat) (b : UInt8) => acc * 256 + b.toNat) 0 < 2 ^ 128 := by
    have h1 := KFB.fold_lt b.toList 0
    rw [Nat.zero_add, Nat.one_mul, Array.length_toList] at h1
    have h2 : 256 ^ b.size ≤ 256 ^ 16 := Nat.pow_le_pow_right (by decide) hl
    exact Nat.lt_of_lt_of_le h1 h2
  have hv : ((b.toList.foldl (fun (acc : Nat) (b : UInt8) => acc * 256 + b.toNat) 0 : Nat) : Int) = KFB.value (KBw.bInts b) := KFB.fold_cast b.toList 0
  unfold Builtin.«int.from_bytes»
  refine wpAny_bind (wpAny_of_eq (a := true) KFB.type_int (KFB.if_not rfl (wpAny_bind (wpAny_of_eq (a := true) F.conv_sub_int (KFB.if_not rfl ?_)))))
  refine wpAny_bind (wpAny_of_eq (a := [some (.bytes b t), some (.str (PySem.Str.ofString "big") u), none]) (by kernel_rfl) ?_)
  refine wpAny_bind (wpAny_of_eq (a := PySem.Str.ofString "big") (by kernel_rfl) ?_)
  refine wpAny_bind (wpAny_of_eq (a := false) rfl ?_)
  refine wpAny_bind (wpAny_of_eq (a := false) (by kernel_rfl) ?_)
  refine wpAny_bind (wpAny_of_eq (a := b) rfl ?_)
  show wpAny _ _ (mkIntGrown (b.toList.foldl (fun (acc : Int) (b : UInt8) => acc * 256 + (b.toNat : Int)) ((0 : Nat) : Int)) >>= fun v => _) _ _ _
  rw [KFB.foldI_eq]
  refine wpAny_bind (grown_any hn ?_)
  rw [hv]
  exact KFB.if_so (by decide +kernel) (wpAny_bind (wpAny_pure (wpAny_pure h)))

theorem call_from {x : Addr} {b : Array UInt8} {t u : Tok} {ks : List Int} {Q : Value → Shared → Prop} (N : News h₀ L s.heap news) (hm : (x, KFB.bound) ∈ news) (hb : KBw.bInts b = ks) (hl : ks.length ≤ 16)
    (h : ∀ t' k, Q (.int (val 256 ks) t') { s with toks := k }) : wpAny (model prog w) A (call (.ref x) [.bytes b t, .str (PySem.Str.ofString "big") u]) Q E s := by
  subst hb
  exact KFB.call_of (KFB.at_of N hm) (fun z => from_big (by rw [← KBw.ints_length]; exact hl) z) (h _ _)
end
end Mine
end
section
example : True := by
  w_top off
  trivial
open PySem PySem.W PyProof.Rows PySem.Calls
namespace Mine
section
variable {prog : Program} {w : World} {A : Around} {E : Value → Shared → Prop} {s : Shared}
theorem int_class {n : Int} {u : Tok} {b : Bool} {Q : Value → Shared → Prop} (h : ∀ k, Q (.type "int") { s with toks := k }) : wpAny (model prog w) A (getAttr (.int n u) (PySem.Str.ofString "__class__") b) Q E s := by
  obtain ⟨hp, g, d, t, os⟩ := s
  have hT : ∀ t, (⟨hp, g, d, t, os⟩ : Shared).TypeIs (.int n u) "int" := fun _ => rfl
  have f2 := F.slot_int_getattribute.lookup
  have f3 := F.slot_int_getattribute.bind (.int n u)
  unfold getAttr getAttrBy
  cases b
  all_goals
    repeat (any_goals (first | assumption | exact hT _ | wp_step))
    refine class_call_int ?_
    repeat (any_goals (first | assumption | wp_step))
    exact h _

theorem typeName_int_cut : typeNameCut 100 (.type "int") = pure "int" := by first | rfl | kernel_rfl
/-- an AttributeError raised by a text -/
theorem raise_attr {α : Type} {msg : PySem.Str} {Q : α → Shared → Prop} (hh : A.handled = none) (hm : msg.length ≤ sizeLine)
    (h : ∀ h' tk e, Heap.NewExcOf s.heap h' e "AttributeError" → (∀ b o, s.heap.get? b = some o → h'.get? b = some o) → E (.ref e) { s with heap := h', toks := tk }) :
    wpAny (model prog w) A (raiseErrorStr "AttributeError" msg : Sem α) Q E s := by
  unfold raiseErrorStr
  refine wpAny_bind (wpAny_mkStr (wpAny_bind ?_) hm)
  unfold newExc newTuple
  refine wpAny_bind (wpAny_newObj_type ?_ (by size_fits))
  refine wpAny_bind (m := firstArgMember _ _) (wpAny_of_eq (a := Value.none) (by simp only [firstArgMember, attrError_no_first]; rfl) ?_)
  rw [ownMembersOf_AttributeError]
  refine wpAny_newObj_type ?_ (by size_fits)
  unfold raiseNew
  refine wpAny_bind (wpAny_handled ?_)
  rw [hh]
  first
    | refine wpAny_throw ?_
    | refine wpAny_bind (wpAny_pure (wpAny_throw ?_))
  refine h _ _ _ ?_ ?_
  · exact ⟨fun b o hb => Heap.get?_push_of_some _ (Heap.get?_push_of_some _ hb), Heap.get?_none_of_le (by simp), _, _, Heap.get?_push_size _ rfl, rfl, rfl, rfl⟩
  · exact fun b o hb => Heap.get?_push_of_some _ (Heap.get?_push_of_some _ hb)

theorem no_ser_type : typeLookup (.type "type") (PySem.Str.ofString "serialize") = pure none := by rw [typeLookup_type, builtinLookup_eq_fast]; kernel_rfl
theorem no_ser_int : typeLookup (.type "int") (PySem.Str.ofString "serialize") = pure none := by rw [typeLookup_type, builtinLookup_eq_fast]; kernel_rfl
theorem no_opaque_int : opaqueClassAbove (.type "int") = pure none := by unfold opaqueClassAbove; dsimp only; rw [show Manifest.isStub "int" = false by decide +kernel]; rfl
theorem type_of_int : typeOf (.type "int") = pure (.type "type") := by first | rfl | kernel_rfl
theorem tga_miss {tk : Tok} {P : Fin → Shared → Prop} (hh : A.handled = none)
    (h : ∀ h' tk e, Heap.NewExcOf s.heap h' e "AttributeError" → (∀ b o, s.heap.get? b = some o → h'.get? b = some o) → E (.ref e) { s with heap := h', toks := tk }) :
    wpAny (model prog w) A (Builtin.«type.__getattribute__» ⟨[.type "int", .str (PySem.Str.ofString "serialize") tk], []⟩) P E s := by
  unfold Builtin.«type.__getattribute__»
  refine wpAny_bind (wpAny_pure (wpAny_bind (wpAny_of_eq no_opaque_int (wpAny_bind (wpAny_of_eq type_of_int (wpAny_bind (wpAny_of_eq no_ser_type ?_)))))))
  refine wpAny_bind (wpAny_pure (wpAny_bind (wpAny_of_eq no_ser_int ?_)))
  dsimp only
  refine wpAny_bind (wpAny_rule ?_)
  refine wpAny_bind (wpAny_of_eq typeName_int_cut ?_)
  exact raise_attr hh (by decide +kernel) h
theorem tga_bind : bindSpecial (.builtin "type.__getattribute__") (.type "int") = pure (.builtin "type.__getattribute__", [.type "int"]) := by first | rfl | kernel_rfl
theorem no_hook_type : typeLookup (.type "type") "__getattr__" = pure none := by rw [typeLookup_type, builtinLookup_eq_fast]; kernel_rfl
theorem by_miss {tk : Tok} {Q : Value → Shared → Prop} (hA : A.handled = none)
    (h : ∀ h' tk' e, Heap.NewExcOf s.heap h' e "AttributeError" → (∀ b o, s.heap.get? b = some o → h'.get? b = some o) → E (.ref e) { s with heap := h', toks := tk' }) :
    wpAny (model prog w) A (getAttrBy (.type "int") (.str (PySem.Str.ofString "serialize") tk) false) Q E s := by
  obtain ⟨hp, g, d, t, os⟩ := s
  have f1 := sub_AttributeError
  have f2 := KF.slot_tga.lookup
  have f3 := tga_bind
  have f4 := type_of_int
  have f5 := no_hook_type
  unfold getAttrBy
  repeat (any_goals (first | assumption | wp_step))
  refine codeAny_call_builtin KF.slot_tga.plain KF.entry_tga (KF.slot_tga.check _ _ _ _ _ _ _ _ (show (⟨hp, g, d, t, os⟩ : Shared).TypeIs (.type "int") "type" from rfl) (KF.args_tga _ _) (tga_miss (by first | exact hA | rfl | assumption) fun h' tk' e hx hk => ?_))
  have hx' := hx
  obtain ⟨_, _, ⟨oc, od, odt, osl⟩, vs, he, hc, _⟩ := hx'
  dsimp only at hc
  subst hc
  show wpAny _ _ (getattributeRaised _ _ _ _ _ _ _) _ _ _
  unfold getattributeRaised
  repeat (any_goals (first | assumption | wp_step))
  exact h _ _ _ hx hk
theorem has_miss {u : Tok} {Q : Value → Shared → Prop} (hA : A.handled = none)
    (h : ∀ h' tk', (∀ b o, s.heap.get? b = some o → h'.get? b = some o) → Q (.bool false) { s with heap := h', toks := tk' }) :
    wpAny (model prog w) A (call (.builtin "hasattr") [.type "int", .str (PySem.Str.ofString "serialize") u]) Q E s := by
  obtain ⟨hp, g, d, t, os⟩ := s
  refine Calls.call_function_entry (b := Builtin.«hasattr») (by decide +kernel) (by decide +kernel) (entryFor_of_tree (by kernel_rfl)) (by unfold argsOk; kernel_rfl) ?_
  have f1 := sub_AttributeError
  have f4 := type_of_int
  have f6 := no_ser_type
  unfold Builtin.«hasattr»
  refine wpAny_bind (wpAny_of_eq (a := [.type "int", .str (PySem.Str.ofString "serialize") u]) (by kernel_rfl) ?_)
  dsimp only
  refine wpAny_bind (wpAny_of_eq (a := ()) (by first | rfl | kernel_rfl) ?_)
  refine KFB.if_not (by first | rfl | decide +kernel) ?_
  refine wpAny_bind (wpAny_of_eq type_of_int ?_)
  dsimp only
  refine wpAny_bind (wpAny_of_eq (a := some (PySem.Str.ofString "serialize")) (by first | rfl | kernel_rfl) ?_)
  dsimp only
  refine wpAny_bind (wpAny_of_eq no_ser_type ?_)
  dsimp only
  refine wpAny_bind (wpAny_of_eq (a := (0 : Nat)) (by first | rfl | kernel_rfl) ?_)
  refine KFB.if_not (by first | rfl | decide) ?_
  refine wpAny_bind ?_
  unfold getAttrBy?
  refine wpAny_bind (wpAny_attempt (by_miss (by exact hA) fun h' tk' e hx hk => ?_))
  have hx' := hx
  obtain ⟨_, _, ⟨oc, od, odt, osl⟩, vs, he, hc, _⟩ := hx'
  dsimp only at hc
  subst hc
  dsimp only
  repeat (any_goals (first | assumption | wp_step))
  exact ⟨_, rfl, h _ _ hk⟩
theorem fr_keeps {h₀ h h' : Heap} {L : Addr} {m : PySem.Str → Option Value} (F : Fr h₀ L h m) (hk : ∀ b o, h.get? b = some o → h'.get? b = some o) : Fr h₀ L h' m := ⟨F.ns.keeps hk, fun b o e => hk b o (F.keep b o e), F.above⟩
theorem news_keeps {h₀ h h' : Heap} {L : Addr} {news : List (Addr × Obj)} (N : News h₀ L h news) (hk : ∀ b o, h.get? b = some o → h'.get? b = some o) : News h₀ L h' news := fun p hp => ⟨hk _ _ (N p hp).1, (N p hp).2⟩
theorem has_missF {h₀ : Heap} {L : Addr} {m : PySem.Str → Option Value} {news : List (Addr × Obj)} {u : Tok} {Q : Value → Shared → Prop} (F : Fr h₀ L s.heap m) (N : News h₀ L s.heap news) (hA : A.handled = none)
    (h : ∀ h' tk', Fr h₀ L h' m → News h₀ L h' news → Q (.bool false) { s with heap := h', toks := tk' }) :
    wpAny (model prog w) A (call (.builtin "hasattr") [.type "int", .str (PySem.Str.ofString "serialize") u]) Q E s :=
  has_miss hA fun h' tk' hk => h h' tk' (fr_keeps F hk) (news_keeps N hk)
end
end Mine
end
section
example : True := by
  w_top off
  trivial
open PySem PySem.W PyProof.Rows PySem.Calls
namespace Mine
section
variable {prog : Program} {w : World} {A : Around} {E : Value → Shared → Prop} {s : Shared} {h₀ : Heap} {L : Addr} {m : PySem.Str → Option Value} {news : List (Addr × Obj)} {D d : Addr} {o o' : Obj}
theorem no_entries (hI : o.IsDictOf (strKind prog w) []) : ∃ ep, o.ExactDict ∧ o.data = .dict #[] ep := by
  obtain ⟨es, ep, h1, h2, _, h4, _⟩ := hI
  cases es with | mk l =>
  cases h4
  exact ⟨ep, h1, h2⟩
theorem merge_none {ep ep' : Nat} {Q : Unit → Shared → Prop} (hD : s.heap.get? D = some o) (hx : o.ExactDict) (ho : o.data = .dict #[] ep) (hd : s.heap.get? d = some o') (ho' : o'.data = .dict #[] ep') (hs : (D == sysModules) = false)
    (h : Q () s) : wpAny (model prog w) A (mergeMapping d (.ref D) true) Q E s := by
  have hT : s.TypeIs (.ref D) "dict" := ⟨o, hD, hx.1⟩
  unfold mergeMapping
  refine wpAny_bind (wpAny_isInstance hT isSubtype_dict_dict ?_)
  simp only [if_true]
  refine wpAny_bind (wpAny_specialOf hT F.slot_dict_iter.lookup (wpAny_bind (wpAny_pure ?_)))
  simp only [beq_self_eq_true, hs, Bool.false_eq_true, if_false]
  refine wpAny_bind (wpAny_dictEntries hd ho' ?_)
  simp only [Array.isEmpty_empty, if_true]
  refine wpAny_bind (wpAny_dictEntries hD ho ?_)
  refine wpAny_bind ?_
  refine wpAny_pure ?_
  refine wpAny_bind (wpAny_dictEntries hD ho ?_)
  refine wpAny_bind (wpAny_dictEpoch hD ho ?_)
  exact wpAny_bind (wpAny_pure (wpAny_pure h))
theorem merged_none {f : Value} {x : Sem Value} {ep : Nat} {Q : Addr → Shared → Prop} (hx : o.ExactDict) (ho : o.data = .dict #[] ep) (hs : (D == sysModules) = false)
    (h : wpAny (model prog w) A x (fun v s₁ => v = .ref D ∧ s₁.heap.get? D = some o ∧ s₁.heap.get? s.heap.objs.size = some ({ cls := .type "dict", data := .dict #[] } : Obj) ∧ Q s.heap.objs.size s₁) E { s with heap := s.heap.push { cls := .type "dict", data := .dict #[] } }) :
    wpAny (model prog w) A (mergedKeywords f [(none, x)]) Q E s := by
  unfold mergedKeywords
  refine wpAny_bind (wpAny_alloc ?_)
  refine wpAny_bind (wpAny_holding ?_)
  refine wpAny_bind ?_
  refine wpAny_bind ?_
  refine wpAny_bind (wpAny_pure ?_)
  refine wpAny_bind (wpAny_mono h (fun v s₁ h₁ => ?_) fun _ _ z => z)
  obtain ⟨rfl, h2, h3, h4⟩ := h₁
  refine wpAny_bind (wpAny_onRaise (wpAny_holding (wpAny_tryCatch (wpAny_onRaise (merge_none h2 hx ho h3 rfl hs ?_)))))
  exact wpAny_pure (wpAny_pure (wpAny_pure (wpAny_pure h4)))
theorem kwIn_none {f : Value} {d : Addr} {ep : Nat} {o' : Obj} {Q : List (PySem.Str × Value) → Shared → Prop} (hd : s.heap.get? d = some o') (ho : o'.data = .dict #[] ep) (h : Q [] s) : wpAny (model prog w) A (keywordsIn f d) Q E s := by
  unfold keywordsIn
  refine wpAny_bind (wpAny_dictEntries hd ho ?_)
  exact wpAny_bind (wpAny_pure (wpAny_pure h))
theorem callWith_kw {q g : Addr} {self : Value} {x : Sem Value} {y : Sem Value} {ep : Nat} {K : Frag} {pos : Pos} {Q : Value → Shared → Prop} (hf : fnIn K g = true) (hx : o.ExactDict) (ho : o.data = .dict #[] ep) (hs : (D == sysModules) = false)
    (hy : wpAny (model prog w) A y (fun v s₁ => wpAny (model prog w) A x (fun v' s₂ => v' = .ref D ∧ s₂.heap.get? D = some o ∧ s₂.heap.get? s₁.heap.objs.size = some ({ cls := .type "dict", data := .dict #[] } : Obj) ∧ MethP K q g self s₂.heap ∧
      wpAny (model prog w) A (call (.ref q) [v]) Q E s₂) E { s₁ with heap := s₁.heap.push { cls := .type "dict", data := .dict #[] } }) E s) :
    wpAny (model prog w) A (callWith pos (.ref q) [] [(false, y)] [(none, x)]) Q E s := by
  unfold callWith
  refine wpAny_bind (wpAny_holding ?_)
  unfold evalArgs
  refine wpAny_bind (spliced_cons (wpAny_mono hy (fun v s₁ h₁ => spliced_nil ?_) fun _ _ z => z))
  refine wpAny_bind (wpAny_pure ?_)
  refine wpAny_holding ?_
  simp only [List.all_cons, Option.isSome_none, Bool.false_and, Bool.false_eq_true, if_false]
  refine wpAny_bind (merged_none hx ho hs (wpAny_mono h₁ (fun v' s₂ h₂ => ?_) fun _ _ z => z))
  obtain ⟨rfl, h2, h3, h4, h5⟩ := h₂
  refine ⟨rfl, h2, h3, ?_⟩
  refine wpAny_bind (wpAny_pure ?_)
  refine wpAny_bind (wpAny_holding (kwIn_none h3 rfl ?_))
  refine wpAny_pure ?_
  refine wpAny_bind (wpAny_standAt ?_)
  obtain ⟨k, hk', Lk⟩ := keeps_M (M := model prog w) hf _ h4
  refine wpAny_bind (Lk.here ?_)
  have tail : ∀ {t : Sem Value}, wpAny (model prog w) A t Q E s₂ → wpAny (model prog w) A (t >>= fun r => holding [r] point >>= fun _ => pure r) Q E s₂ :=
    fun ht => wpAny_bind (wpAny_mono ht (fun r s₂ hr => wpAny_bind (wpAny_holding (wpAny_point (wpAny_pure hr)))) fun _ _ x => x)
  have marked (mk : Value) : wpAny (model prog w) A (callMarked mk (.ref q) [v] []) Q E s₂ := by unfold callMarked; exact Calls.wpAny_keep h5
  rcases hk' with rfl | rfl | rfl <;> dsimp only <;> first | exact tail (marked _) | exact tail (wpAny_operating h5)
theorem call_kw {env : Env} {pos apos kp : Pos} {oe e kwe : PySem.Expr} {name : PySem.Str} {Q : Value → Shared → Prop}
    (h : wpAny (model prog w) A (eval oe env) (fun ov s₁ => wpAny (model prog w) A (getAttr ov name true) (fun f s₂ => wpAny (model prog w) A (callWith pos f [] (backTo pos (starEach [e] env)) (backToKw pos (keywordEach [⟨none, kwe, kp⟩] env))) Q E s₂) E s₁) E s)
    (he : eval (.Call (.Attribute oe name apos) [e] [⟨none, kwe, kp⟩] pos) env = (do
      let ov ← eval oe env
      standAt apos.atName
      let f ← holding [ov] (getAttr ov name true >>= fun f => pure (f, ([] : List Value)))
      callWith pos f.1 f.2 (backTo pos (starEach [e] env)) (backToKw pos (keywordEach [⟨none, kwe, kp⟩] env))) := by rfl) :
    wpAny (model prog w) A (eval (.Call (.Attribute oe name apos) [e] [⟨none, kwe, kp⟩] pos) env) Q E s := by
  rw [he]
  refine wpAny_bind (wpAny_mono h (fun ov s₁ h₁ => wpAny_bind (wpAny_standAt (wpAny_bind (wpAny_holding (wpAny_bind (wpAny_mono h₁ (fun fx s₂ h₂ => wpAny_pure ?_) fun _ _ x => x)))))) fun _ _ x => x)
  exact h₂
theorem callWith_kwN {nm : PySem.Str} {scope : Scope} {a q g : Addr} {cd self v : Value} {i2 i3 : PySem.Str} {p2 p3 kp pos : Pos} {K : Frag} {Q : Value → Shared → Prop} (X₀ : K.In h₀) (F : Fr h₀ L s.heap m) (N : News h₀ L s.heap news) (hq : (q, methodObj (.ref g) self) ∈ news) (hD : (D, o) ∈ news) (hf : fnIn K g = true)
    (hI : o.IsDictOf (strKind prog w) []) (hs : (D == sysModules) = false) (hv2 : m i2 = some v) (hv3 : m i3 = some (.ref D))
    (h : ∀ h' tk', Fr h₀ L h' m → News h₀ L h' news → wpAny (model prog w) A (call (.ref q) [v]) Q E { s with heap := h', toks := tk' })
    (hk : scope.kind = .function := by rfl) (hl2 : (envOf nm scope L a cd).kindOf i2 = some .local := by rfl) (hd2 : (i2 == ("__debug__" : Str)) = false := by decide)
    (hl3 : (envOf nm scope L a cd).kindOf i3 = some .local := by rfl) (hd3 : (i3 == ("__debug__" : Str)) = false := by decide) :
    wpAny (model prog w) A (callWith pos (.ref q) [] (backTo pos (starEach [.Name i2 p2] (envOf nm scope L a cd))) (backToKw pos (keywordEach [⟨none, .Name i3 p3, kp⟩] (envOf nm scope L a cd)))) Q E s := by
  obtain ⟨ep, hx, ho⟩ := no_entries hI
  show wpAny (model prog w) A (callWith pos (.ref q) [] [(false, eval (.Name i2 p2) (envOf nm scope L a cd))] [(none, do let v ← eval (.Name i3 p3) (envOf nm scope L a cd); standAt pos; pure v)]) Q E s
  refine callWith_kw (self := self) (g := g) (K := K) hf hx ho hs ?_
  refine ld F hv2 ?_ hk hl2 hd2
  have F2 := F.push ({ cls := .type "dict", data := .dict #[] } : Obj)
  have N2 := News.pushKeep N ({ cls := .type "dict", data := .dict #[] } : Obj)
  refine wpAny_bind (ld F2 hv3 (wpAny_bind (wpAny_standAt (wpAny_pure ?_))) hk hl3 hd3)
  exact ⟨rfl, (N2 _ hD).1, Heap.get?_push_size _ rfl, methP N2 hq (X₀.keeps F2.keep), h _ _ F2 N2⟩
end
end Mine
end
section
example : True := by
  w_top off
  trivial
open PySem PySem.W PyProof.Rows PySem.Calls
namespace Mine

/-- the alphabet's codes -/
def alpha : List Nat := [49,50,51,52,53,54,55,56,57,65,66,67,68,69,70,71,72,74,75,76,77,78,80,81,82,83,84,85,86,87,88,89,90,97,98,99,100,101,102,103,104,105,106,107,109,110,111,112,113,114,115,116,117,118,119,120,121,122]
def code58 (d : Int) : Nat := alpha.getD d.toNat 0
def chr58 (d : Int) : Str := ⟨#[code58 d]⟩
/-- figures of 58 as a text -/
def text58 (ds : List Int) : Str := ⟨(ds.map code58).toArray⟩

/-- while figures come off: V the number, n what is left, ds the figures, the lowest first -/
def WE (V n : Int) (chars : List Str) : Prop := ∃ ds : List Int, chars = ds.map chr58 ∧ Figs 58 ds ∧ V = n * 58 ^ ds.length + val 58 ds.reverse ∧ 0 ≤ n ∧ (ds.length = 0 ∨ 58 ^ (ds.length - 1) ≤ V)
abbrev WEX (V n : Int) (chars : List Str) : Prop := WE V n chars ∧ 0 ≤ n ∧ chars.length ≤ 200

theorem pow58_ge : ∀ k : Nat, (2 : Int) ^ k ≤ 58 ^ k
  | 0 => by simp
  | k + 1 => by
    rw [Int.pow_succ, Int.pow_succ]
    have h := pow58_ge k
    have h2 := pow_pos' (B := 2) (by decide) k
    omega
theorem two_le {a b : Nat} (h : (2 : Int) ^ a < 2 ^ b) : a < b := by
  rw [← kbt_cast, ← kbt_cast] at h
  exact (Nat.pow_lt_pow_iff_right (by decide)).mp (Int.ofNat_lt.mp h)
theorem we_len {V n : Int} {chars : List Str} (hV : V < 2 ^ 128) (h : WE V n chars) : chars.length ≤ 200 := by
  obtain ⟨ds, rfl, h1, h2, h3, h4⟩ := h
  rw [List.length_map]
  rcases h4 with h4 | h4
  · omega
  · have h5 := pow58_ge (ds.length - 1)
    have := two_le (a := ds.length - 1) (b := 128) (by omega)
    omega
theorem we_start {V : Int} (h0 : 0 ≤ V) : WEX V V [] := ⟨⟨[], rfl, .nil _, by simp [val], h0, .inl rfl⟩, h0, by simp⟩
theorem we_turn {V n : Int} {chars : List Str} (hV : PySem.Flt.Hid (V < 2 ^ 128)) (h : WE V n chars) (hn : 0 < n) : WEX V (n / 58) (chars ++ [chr58 (n % 58)]) := by
  have k : WE V (n / 58) (chars ++ [chr58 (n % 58)]) := by
    obtain ⟨ds, rfl, h1, h2, h3, h4⟩ := h
    refine ⟨ds ++ [n % 58], by simp, h1.app (.one (by omega) (by omega)), ?_, by omega, .inr ?_⟩
    · rw [List.reverse_append, List.reverse_singleton, List.singleton_append, val_cons, List.length_append, List.length_singleton, Int.pow_succ, List.length_reverse, h2]
      have e : n * 58 ^ ds.length = (58 * (n / 58) + n % 58) * 58 ^ ds.length := by congr 1; omega
      rw [e, Int.add_mul, Int.mul_comm 58 (n / 58), Int.mul_assoc, Int.mul_comm (58 ^ ds.length) 58]
      omega
    · rw [List.length_append, List.length_singleton]
      have e : ds.length + 1 - 1 = ds.length := by omega
      rw [e, h2]
      have hp := pow_pos' (B := 58) (by decide) ds.length
      have h5 : 1 * 58 ^ ds.length ≤ n * 58 ^ ds.length := Int.mul_le_mul_of_nonneg_right (by omega) (Int.le_of_lt hp)
      have h6 : Figs 58 ds.reverse := fun x hx => h1 x (List.mem_reverse.mp hx)
      have h7 := (val_range (by decide) h6).1
      omega
  exact ⟨k, k.choose_spec.2.2.2.1, we_len hV.out k⟩

theorem item58 {d : Int} (h0 : 0 ≤ d) (h1 : d < 58) : Txt.item (Str.ofString "123456789ABCDEFGHJKLMNPQRSTUVWXYZabcdefghijkmnopqrstuvwxyz") d = chr58 d := by
  obtain ⟨k, rfl⟩ := Int.eq_ofNat_of_zero_le h0
  have hk : k < 58 := by omega
  have h : ∀ i : Fin 58, Txt.item (Str.ofString "123456789ABCDEFGHJKLMNPQRSTUVWXYZabcdefghijkmnopqrstuvwxyz") ((i.val : Nat) : Int) = chr58 ((i.val : Nat) : Int) := by decide +kernel
  exact h ⟨k, hk⟩
theorem we_turnF {V n : Int} {chars : List Str} (hV : PySem.Flt.Hid (V < 2 ^ 128)) (h : WE V n chars) (hn : 0 < n) :
    WEX V (n.fdiv 58) (chars ++ [Txt.item (Str.ofString "123456789ABCDEFGHJKLMNPQRSTUVWXYZabcdefghijkmnopqrstuvwxyz") (n.fmod 58)]) := by
  have e1 : n.fdiv 58 = n / 58 := Int.fdiv_eq_ediv_of_nonneg n (by decide)
  have e2 : n.fmod 58 = n % 58 := Int.fmod_eq_emod_of_nonneg n (by decide)
  rw [e1, e2, item58 (by omega) (by omega)]
  exact we_turn hV h hn
theorem we_meas {n : Int} (hn : 0 < n) : (n.fdiv 58).toNat < n.toNat := by
  have e1 : n.fdiv 58 = n / 58 := Int.fdiv_eq_ediv_of_nonneg n (by decide)
  rw [e1]; omega
theorem text58_cons (d : Int) (ds : List Int) : text58 (d :: ds) = chr58 d ++ text58 ds := by
  refine Str.ext' ?_
  rw [Str.cps_append]
  simp [text58, chr58]
theorem text58_app (xs ys : List Int) : text58 (xs ++ ys) = text58 xs ++ text58 ys := by
  refine Str.ext' ?_
  rw [Str.cps_append]
  simp [text58]
theorem text58_len (ds : List Int) : (text58 ds).length = ds.length := by simp [text58, Str.length]
theorem join58 : ∀ ds : List Int, Txt.join (Str.ofString "") (ds.map chr58) = text58 ds := by
  have e : Str.ofString "" = (⟨#[]⟩ : Str) := ofString_empty
  have h : ∀ ds : List Int, Str.join (Str.ofString "") (ds.map chr58) = text58 ds := by
    intro ds
    induction ds with
    | nil => rfl
    | cons d r ih =>
      cases r with
      | nil => rw [text58_cons]; refine Str.ext' ?_; rw [Str.cps_append]; simp [Str.join, text58]
      | cons d2 r2 =>
        show chr58 d ++ Str.ofString "" ++ Str.join (Str.ofString "") ((d2 :: r2).map chr58) = _
        rw [ih, text58_cons d]
        refine Str.ext' ?_
        rw [Str.cps_append, Str.cps_append, Str.cps_append, e]
        simp
  intro ds
  show Builtin.Str.glued (Str.ofString "") (ds.map chr58) = _
  rw [StrLaws.glued_eq_join]
  exact h ds
theorem StrsAre.rev : ∀ {vs : List Value} {ss : List Str}, StrsAre vs ss → StrsAre vs.reverse ss.reverse
  | _, _, .nil => .nil
  | _, _, .cons y t h => by
    rw [List.reverse_cons, List.reverse_cons]
    exact PyProof.Rows.StrsAre.append' (StrsAre.rev h) (.cons y t .nil)
theorem sum_ones (ds : List Int) : ((ds.map chr58).map (·.length)).sum = ds.length := by
  induction ds with
  | nil => rfl
  | cons d r ih =>
    show (chr58 d).length + ((r.map chr58).map (·.length)).sum = r.length + 1
    rw [ih]
    show 1 + r.length = r.length + 1
    omega
section
variable {prog : Program} {w : World} {A : Around} {E : Value → Shared → Prop} {s : Shared} {h₀ : Heap} {L : Addr} {news : List (Addr × Obj)}
theorem join_rev {D : Addr} {vs : List Value} {cs : List Str} {V n : Int} {n0 : Nat} {t : Tok} {Q : Value → Shared → Prop} (N : News h₀ L s.heap news) (hm : (D, ({ cls := .type "list", data := .seq (slicePick vs.toArray none none (some (-1))) n0 } : Obj)) ∈ news) (hi : StrsAre vs cs)
    (hw : WE V n cs) (hl : cs.length ≤ 200) (h : ∀ (ds : List Int) t' k, ds.length ≤ 200 → Figs 58 ds → V = n * 58 ^ ds.length + val 58 ds.reverse → (ds.length = 0 ∨ 58 ^ (ds.length - 1) ≤ V) → Q (.str (text58 ds.reverse) t') { s with toks := k }) : wpAny (model prog w) A (call (.builtin "str.join") [.str (Str.ofString "") t, .ref D]) Q E s := by
  obtain ⟨ds, rfl, w1, w2, _, w4⟩ := hw
  refine join_listW (News.isList N hm) (ys := (ds.map chr58).reverse) ?_ (by decide) ?_ fun t' k => ?_
  · rw [krv_pick]; exact StrsAre.rev hi
  · rw [← List.map_reverse, sum_ones, List.length_map]
    rw [List.length_map] at hl
    rw [List.length_reverse]; omega
  · rw [← List.map_reverse, join58]
    exact h ds t' k (by rw [List.length_map] at hl; exact hl) w1 w2 w4
end
section
variable {prog : Program} {w : World} {A : Around} {E : Value → Shared → Prop} {s : Shared} {t u : Tok} {Q : Value → Shared → Prop}
theorem one58 : Txt.item (Str.ofString "123456789ABCDEFGHJKLMNPQRSTUVWXYZabcdefghijkmnopqrstuvwxyz") 0 = (⟨#[49]⟩ : Str) := by decide +kernel
theorem fold49 : ∀ (n : Nat) (acc : List Nat), (List.replicate n (#[49] : Array Nat)).foldl (· ++ ·) acc.toArray = (acc ++ List.replicate n 49).toArray
  | 0, acc => by simp
  | n + 1, acc => by
    rw [List.replicate_succ, List.foldl_cons]
    have e : acc.toArray ++ (#[49] : Array Nat) = (acc ++ [49]).toArray := by simp
    rw [e, fold49 n, List.append_assoc]
    rfl
theorem mul_text {n : Nat} : Txt.mul (⟨#[49]⟩ : Str) (n : Int) = text58 (List.replicate n 0) := by
  have e : code58 0 = 49 := by decide
  have r : text58 (List.replicate n 0) = ⟨(List.replicate n 49).toArray⟩ := by simp [text58, e]
  rw [r]
  unfold Txt.mul
  by_cases h1 : (n : Int) < 1
  · have hn : n = 0 := by omega
    subst hn
    rw [if_pos h1]; rfl
  · rw [if_neg h1]
    by_cases hn : n = 1
    · subst hn; rfl
    · have h2 : ((n : Int) == 1 || Str.length (⟨#[49]⟩ : Str) == 0) = false := by
        have : ((n : Int) == 1) = false := by rw [beq_eq_false_iff_ne]; omega
        rw [this]; rfl
      rw [h2]
      refine Str.ext' ?_
      have := fold49 n []
      simpa using this
theorem mul58 {n : Int} (h0 : 0 ≤ n) (h1 : n ≤ 100) (h : ∀ t' k, Q (.str (text58 (List.replicate n.toNat 0)) t') { s with toks := k }) :
    wpAny (model prog w) A (binaryOp .Mult (.str (Txt.item (Str.ofString "123456789ABCDEFGHJKLMNPQRSTUVWXYZabcdefghijkmnopqrstuvwxyz") 0) t) (.int n u)) Q E s := by
  rw [one58]
  obtain ⟨k, rfl⟩ := Int.eq_ofNat_of_zero_le h0
  refine SB.mul (mulOk_of 16 1048576 (by decide) (by omega) (by omega) (by decide) (by decide)) fun t' k' => ?_
  rw [mul_text]
  exact h t' k'
theorem add58 {xs ys : List Int} (hl : xs.length + ys.length ≤ 10000) (h : ∀ t' k, Q (.str (text58 (xs ++ ys)) t') { s with toks := k }) :
    wpAny (model prog w) A (binaryOp .Add (.str (text58 xs) t) (.str (text58 ys) u)) Q E s := by
  refine KOpn.add (by rw [text58_len, text58_len]; omega) fun t' k _ => ?_
  rw [← text58_app]
  exact h t' k
end
/-- how many noughts stand ahead -/
noncomputable def lead : List Int → Nat
  | [] => 0
  | k :: r => if k = 0 then lead r + 1 else 0
theorem lead_all : ∀ {ks : List Int}, (∀ k ∈ ks, k = 0) → lead ks = ks.length
  | [], _ => rfl
  | k :: r, h => by
    show (if k = 0 then lead r + 1 else 0) = r.length + 1
    rw [if_pos (h k (List.mem_cons_self)), lead_all fun x hx => h x (List.mem_cons_of_mem _ hx)]
theorem lead_at {n : Int} {post : List Int} (hn : n ≠ 0) : ∀ {pre : List Int}, (∀ k ∈ pre, k = 0) → lead (pre ++ n :: post) = pre.length
  | [], _ => by show (if n = 0 then lead post + 1 else 0) = 0; rw [if_neg hn]
  | k :: r, h => by
    show (if k = 0 then lead (r ++ n :: post) + 1 else 0) = r.length + 1
    rw [if_pos (h k (List.mem_cons_self)), lead_at hn fun x hx => h x (List.mem_cons_of_mem _ hx)]
theorem lead_le : ∀ ks : List Int, lead ks ≤ ks.length
  | [] => Nat.le_refl _
  | k :: r => by
    show (if k = 0 then lead r + 1 else 0) ≤ r.length + 1
    have := lead_le r
    split <;> omega
/-- noughts ahead, counted -/
def WP (pre : List Int) (pad : Int) : Prop := pad = pre.length ∧ ∀ k ∈ pre, k = 0
abbrev WPX (pre : List Int) (pad : Int) : Prop := WP pre pad ∧ 0 ≤ pad ∧ pad = pre.length
theorem wp_start : WPX [] 0 := ⟨⟨rfl, fun _ h => nomatch h⟩, by omega, rfl⟩
theorem wp_turn {pre : List Int} {pad k : Int} (h : WP pre pad) (hk : k = 0) : WPX (pre ++ [k]) (pad + 1) := by
  obtain ⟨rfl, h2⟩ := h
  refine ⟨⟨by simp, fun x hx => ?_⟩, by omega, by simp⟩
  rcases List.mem_append.mp hx with q | q
  · exact h2 x q
  · rw [List.mem_singleton.mp q, hk]
theorem enc_ends {ks pre post : List Int} {pad k : Int} (hw : WP pre pad) (e : ks = pre ++ k :: post) (hk : k ≠ 0) : pad.toNat = lead ks := by
  rw [e, lead_at hk hw.2, hw.1]; omega
theorem enc_endA {ks : List Int} {pad : Int} (hw : WP ks pad) : pad.toNat = lead ks := by
  rw [lead_all hw.2, hw.1]; omega
theorem figs_rev {B : Int} {ds : List Int} (h : Figs B ds) : Figs B ds.reverse := fun x hx => h x (List.mem_reverse.mp hx)
theorem enc_val {V n : Int} {k : Nat} {v : Int} (h : V = n * 58 ^ k + v) (h0 : 0 ≤ n) (h1 : ¬ 0 < n) : v = V := by
  have : n = 0 := by omega
  rw [h, this]; simp
theorem enc_len {V : Int} {ds : List Int} (h : ds.length = 0 ∨ 58 ^ (ds.length - 1) ≤ V) : ds.reverse.length = 0 ∨ 58 ^ (ds.reverse.length - 1) ≤ V := by rw [List.length_reverse]; exact h
end Mine
end
section
example : True := by
  w_top off
  trivial
open PySem PySem.W PyProof.Rows PySem.Calls
namespace Mine

/-- the figure of a sign -/
def idx58 (c : Int) : Int := Txt.find (Str.ofString "123456789ABCDEFGHJKLMNPQRSTUVWXYZabcdefghijkmnopqrstuvwxyz") ⟨#[c.toNat]⟩
def Sign (c : Int) : Prop := ∃ d : Int, 0 ≤ d ∧ d < 58 ∧ c = (code58 d : Int)
theorem find58 : ∀ i : Fin 58, Txt.find (Str.ofString "123456789ABCDEFGHJKLMNPQRSTUVWXYZabcdefghijkmnopqrstuvwxyz") ⟨#[code58 ((i.val : Nat) : Int)]⟩ = ((i.val : Nat) : Int) := by decide +kernel
theorem occ58 : ∀ i : Fin 58, (Builtin.Str.occurrences (Str.ofString "123456789ABCDEFGHJKLMNPQRSTUVWXYZabcdefghijkmnopqrstuvwxyz") ⟨#[code58 ((i.val : Nat) : Int)]⟩ 0 (Str.ofString "123456789ABCDEFGHJKLMNPQRSTUVWXYZabcdefghijkmnopqrstuvwxyz").length 1).isEmpty = false := by decide +kernel
theorem idx_code {d : Int} (h0 : 0 ≤ d) (h1 : d < 58) : idx58 (code58 d : Int) = d := by
  obtain ⟨k, rfl⟩ := Int.eq_ofNat_of_zero_le h0
  unfold idx58
  rw [Int.toNat_natCast]
  exact find58 ⟨k, by omega⟩
theorem Sign.idx {c : Int} (h : Sign c) : 0 ≤ idx58 c ∧ idx58 c < 58 := by
  obtain ⟨d, h0, h1, rfl⟩ := h
  rw [idx_code h0 h1]; exact ⟨h0, h1⟩
theorem codes58 (ds : List Int) : KStt.codes (text58 ds) = ds.map fun d => (code58 d : Int) := by
  unfold KStt.codes text58
  simp [List.map_map, Function.comp_def]
theorem sign_of {ds pre post : List Int} {c : Int} (hd : Figs 58 ds) (h : KStt.codes (text58 ds) = pre ++ c :: post) : Sign c := by
  rw [codes58] at h
  have hm : c ∈ ds.map fun d => (code58 d : Int) := by rw [h]; simp
  obtain ⟨d, hd', rfl⟩ := List.mem_map.mp hm
  exact ⟨d, (hd d hd').1, (hd d hd').2, rfl⟩
theorem idx_map {ds : List Int} (hd : Figs 58 ds) : (KStt.codes (text58 ds)).map idx58 = ds := by
  rw [codes58, List.map_map]
  have : ds.map (idx58 ∘ fun d => (code58 d : Int)) = ds.map id := List.map_congr_left fun d h => idx_code (hd d h).1 (hd d h).2
  rw [this, List.map_id]

section
variable {prog : Program} {w : World} {A : Around} {E : Value → Shared → Prop} {s : Shared} {t u : Tok}
theorem truthy58 {ds : List Int} {Q : Bool → Shared → Prop} (hl : ds.length ≤ 100000) (h : ∀ k, Q (decide (0 < ds.length)) { s with toks := k }) : wpAny (model prog w) A (truthy (.str (text58 ds) t)) Q E s := by
  have e : (((text58 ds).length : Int) != 0) = decide (0 < ds.length) := by
    rw [text58_len]
    by_cases h0 : ds.length = 0
    · rw [h0]; decide
    · have h1 : ((ds.length : Int) != 0) = true := by rw [bne_iff_ne]; omega
      rw [h1, decide_eq_true (by omega)]
  refine PySem.P.truthy_str (by rw [text58_len]; omega) ?_
  rw [e]
  exact h _
theorem notin58 {n : Nat} {Q : Value → Shared → Prop} (hn : Sign (n : Int)) (h : Q (.bool false) s) :
    wpAny (model prog w) A (compareOp .NotIn (.str ⟨#[n]⟩ u) (.str (Str.ofString "123456789ABCDEFGHJKLMNPQRSTUVWXYZabcdefghijkmnopqrstuvwxyz") t)) Q E s := by
  refine notIn_str ?_
  obtain ⟨d, h0, h1, e⟩ := hn
  obtain ⟨k, rfl⟩ := Int.eq_ofNat_of_zero_le h0
  have e' : n = code58 (k : Int) := by omega
  subst e'
  rw [occ58 ⟨k, by omega⟩]
  exact h
theorem index58 {n : Nat} {Q : Value → Shared → Prop} (hA : A.handled = none) (hn : Sign (n : Int)) (h : Q (.int (idx58 (n : Int)) s.toks) { s with toks := s.toks + 1 }) :
    wpAny (model prog w) A (call (.builtin "str.index") [.str (Str.ofString "123456789ABCDEFGHJKLMNPQRSTUVWXYZabcdefghijkmnopqrstuvwxyz") t, .str ⟨#[n]⟩ u]) Q E s := by
  refine index_or hA (fun hx _ => ?_) fun _ _ => ?_
  · have := hn.idx.1
    unfold idx58 at this
    rw [Int.toNat_natCast] at this
    omega
  · exact h
end
/-- the number read so far -/
def DN (pre : List Int) (n : Int) : Prop := n = val 58 (pre.map idx58) ∧ Figs 58 (pre.map idx58)
abbrev DNX (pre : List Int) (n : Int) : Prop := DN pre n ∧ 0 ≤ n
theorem dn_start : DNX [] 0 := ⟨⟨rfl, .nil _⟩, by omega⟩
theorem dn_turn {pre : List Int} {n c : Int} (h : DN pre n) (hc : Sign c) : DNX (pre ++ [c]) (n * 58 + idx58 c) := by
  obtain ⟨rfl, h2⟩ := h
  have k : DN (pre ++ [c]) (val 58 (pre.map idx58) * 58 + idx58 c) := by
    refine ⟨?_, ?_⟩
    · rw [List.map_append, List.map_singleton, val_snoc]
    · rw [List.map_append, List.map_singleton]
      exact h2.app (.one hc.idx.1 hc.idx.2)
  refine ⟨k, ?_⟩
  rw [k.1]
  exact (val_range (by decide) k.2).1
theorem dn_end {ds : List Int} {n : Int} (hd : Figs 58 ds) (h : DN (KStt.codes (text58 ds)) n) : n = val 58 ds := by
  rw [h.1, idx_map hd]
open PySem.Builtin.Int (intBits)
/-- how many octets a number takes -/
def kOf (x : Int) : Nat := max 1 ((intBits x + 7) / 8)
def minBytes (x : Int) : List Int := (KTBy.little (kOf x) x).reverse
theorem bits64 {x : Int} (h0 : 0 ≤ x) (h : x < 2 ^ 64) : intBits x ≤ 64 := by
  refine intBits_le_iff.mpr ?_
  have : ((x.natAbs : Nat) : Int) < ((2 ^ 64 : Nat) : Int) := by
    have e : ((2 ^ 64 : Nat) : Int) = (2 : Int) ^ 64 := by rw [kbt_cast]
    rw [e]; omega
  exact Int.ofNat_lt.mp this
theorem kOf_le {x : Int} (h0 : 0 ≤ x) (h : x < 2 ^ 64) : kOf x ≤ 8 := by
  have := bits64 h0 h
  unfold kOf
  omega
theorem lt_kOf {x : Int} (h0 : 0 ≤ x) : x < 256 ^ kOf x := by
  have hb : intBits x ≤ 8 * kOf x := by unfold kOf; omega
  have h1 := intBits_le_iff.mp hb
  have e2 : (2 : Nat) ^ 8 = 256 := by decide
  rw [Nat.pow_mul, e2] at h1
  have h2 : ((x.natAbs : Nat) : Int) < ((256 ^ kOf x : Nat) : Int) := Int.ofNat_lt.mpr h1
  rw [KTBy.p256]
  omega
theorem min_length (x : Int) : (minBytes x).length = kOf x := by
  unfold minBytes
  rw [List.length_reverse, KTBy.little_length]
section
variable {prog : Program} {w : World} {A : Around} {E : Value → Shared → Prop} {s : Shared} {t u v : Tok}
theorem tb_open {x k : Int} {Q : Value → Shared → Prop} (h0 : 0 ≤ x) (h1 : PySem.Flt.Hid (x < 2 ^ 64)) (hk : k = (kOf x : Int)) (h : ∀ (b : Array UInt8) t' k', KBw.bInts b = minBytes x → b.size ≤ 8 → Q (.bytes b t') { s with toks := k' }) :
    wpAny (model prog w) A (call (.builtin "int.to_bytes") [.int x t, .int k u, .str (PySem.Str.ofString "big") v]) Q E s := by
  subst hk
  refine KTBy.to_big (kOf_le h0 h1.out) rfl h0 (lt_kOf h0) fun b t' k' e l => h b t' k' e ?_
  rw [← KBw.ints_length, e, l]
  exact kOf_le h0 h1.out
end
theorem k_some {x k : Int} (hk : ((intBits x : Int) + 7).fdiv 8 = k) (h : k ≠ 0) : k = (kOf x : Int) := by
  have e : ((intBits x : Int) + 7).fdiv 8 = ((intBits x : Int) + 7) / 8 := Int.fdiv_eq_ediv_of_nonneg _ (by decide)
  unfold kOf
  omega
theorem k_none {x : Int} (hk : ((intBits x : Int) + 7).fdiv 8 = 0) : (1 : Int) = (kOf x : Int) := by
  have e : ((intBits x : Int) + 7).fdiv 8 = ((intBits x : Int) + 7) / 8 := Int.fdiv_eq_ediv_of_nonneg _ (by decide)
  unfold kOf
  omega
theorem hid_of {x y : Int} (e : x = y) (h : PySem.Flt.Hid (y < 2 ^ 64)) : PySem.Flt.Hid (x < 2 ^ 64) := by rw [e]; exact h
theorem slice_last {ds : List Int} (h : 0 < ds.length) : Txt.slice (text58 ds) none (some (-1)) = text58 ds.dropLast := by
  show StrLaws.sliceText (text58 ds) none (some (-1)) = _
  rw [StrLaws.sliceText_to_neg (by decide) (by rw [text58_len]; omega)]
  refine Str.ext' ?_
  have e : ((-1 : Int) + ((text58 ds).length : Int)).toNat = ds.length - 1 := by rw [text58_len]; omega
  rw [show (text58 ds).cps.toList = ds.map code58 from by simp [text58]]
  simp only [List.drop_zero]
  first
    | rw [e]
    | skip
  show _ = (ds.dropLast.map code58).toArray
  rw [List.dropLast_eq_take, List.map_take]
  try simp [text58_len]
  try (congr 2; omega)
section
variable {prog : Program} {w : World} {A : Around} {E : Value → Shared → Prop} {s : Shared} {h₀ : Heap} {L : Addr} {m : PySem.Str → Option Value} {news : List (Addr × Obj)} {value slice : Expr} {t uj : Tok}
theorem slice58_last {ds : List Int} {Q : Value → Shared → Prop} (h0 : 0 < ds.length) (hl : ds.length ≤ 100000) (hF : Fr h₀ L s.heap m) (hN : News h₀ L s.heap news) (h : ∀ h' t' k, Fr h₀ L h' m → News h₀ L h' news → Q (.str (text58 ds.dropLast) t') { s with heap := h', toks := k })
    (hs : subscripted slice false (.str (text58 ds) t) (.ref s.heap.objs.size) = operate [.ref s.heap.objs.size, .str (text58 ds) t] (getItem (.str (text58 ds) t) (.ref s.heap.objs.size)))
    (ht : ∀ r, letTemporaryGo value (.str (text58 ds) t) r = pure ()) :
    wpAny (model prog w) A (subscriptTail value slice (.str (text58 ds) t) (.ref s.heap.objs.size)) Q E { s with heap := s.heap.push { cls := .type "slice", data := .fields #[.none, .int (-1) uj, .none] } } := by
  refine slice_strN_ns hF hN (fun h' t' k a b => ?_) hs ht (by rw [text58_len, sizeLine_eq]; omega)
  rw [slice_last h0]
  exact h h' t' k a b
end
theorem zero58 : ∀ i : Fin 58, ((⟨#[code58 ((i.val : Nat) : Int)]⟩ : Str) == Txt.item (Str.ofString "123456789ABCDEFGHJKLMNPQRSTUVWXYZabcdefghijkmnopqrstuvwxyz") 0) = decide (((i.val : Nat) : Int) = 0) := by decide +kernel
section
variable {prog : Program} {w : World} {A : Around} {E : Value → Shared → Prop} {s : Shared} {t u : Tok}
theorem eq58 {n : Nat} {Q : Value → Shared → Prop} (hn : Sign (n : Int)) (h : Q (.bool (decide (idx58 (n : Int) = 0))) s) :
    wpAny (model prog w) A (compareOp .Eq (.str ⟨#[n]⟩ u) (.str (Txt.item (Str.ofString "123456789ABCDEFGHJKLMNPQRSTUVWXYZabcdefghijkmnopqrstuvwxyz") 0) t)) Q E s := by
  refine eq_str ?_
  obtain ⟨d, h0, h1, e⟩ := hn
  have hi := idx_code h0 h1
  rw [← e] at hi
  obtain ⟨k, rfl⟩ := Int.eq_ofNat_of_zero_le h0
  have e' : n = code58 (k : Int) := by omega
  rw [hi] at h
  subst e'
  have hz := zero58 ⟨k, by omega⟩
  dsimp only at hz
  rw [hz]
  exact h
end
/-- noughts ahead in a text, counted -/
def WS (pre : List Int) (pad : Int) : Prop := pad = pre.length ∧ ∀ c ∈ pre, idx58 c = 0
abbrev WSX (pre : List Int) (pad : Int) : Prop := WS pre pad ∧ 0 ≤ pad ∧ pad = pre.length
theorem ws_start : WSX [] 0 := ⟨⟨rfl, fun _ h => nomatch h⟩, by omega, rfl⟩
theorem ws_turn {pre : List Int} {pad k : Int} (h : WS pre pad) (hk : idx58 k = 0) : WSX (pre ++ [k]) (pad + 1) := by
  obtain ⟨rfl, h2⟩ := h
  refine ⟨⟨by simp, fun x hx => ?_⟩, by omega, by simp⟩
  rcases List.mem_append.mp hx with q | q
  · exact h2 x q
  · rw [List.mem_singleton.mp q, hk]
theorem ws_at {ds pre post : List Int} {pad c : Int} (hd : Figs 58 ds) (h : WS pre pad) (e : KStt.codes (text58 ds) = pre ++ c :: post) (hc : idx58 c ≠ 0) : pad.toNat = lead ds := by
  have hm := idx_map hd
  rw [e, List.map_append, List.map_cons] at hm
  rw [← hm, lead_at hc fun k hk => by obtain ⟨x, hx, rfl⟩ := List.mem_map.mp hk; exact h.2 x hx]
  rw [List.length_map, h.1]; omega
theorem ws_all {ds : List Int} {pad : Int} (hd : Figs 58 ds) (h : WS (KStt.codes (text58 ds)) pad) : pad.toNat = lead ds := by
  have hm := idx_map hd
  rw [← hm, lead_all fun k hk => by obtain ⟨x, hx, rfl⟩ := List.mem_map.mp hk; exact h.2 x hx]
  rw [List.length_map, h.1]; omega
theorem figs_last {B : Int} {ds : List Int} (h : Figs B ds) : Figs B ds.dropLast := fun x hx => h x (List.dropLast_subset _ hx)
theorem bInts_zeros (n : Nat) : KBw.bInts ((List.replicate n [(0 : UInt8)]).flatten).toArray = List.replicate n 0 := by
  rw [KBw.ints_list]
  induction n with
  | zero => rfl
  | succ n ih =>
    rw [List.replicate_succ, List.flatten_cons, List.map_append, ih, List.replicate_succ]
    rfl
section
variable {prog : Program} {w : World} {A : Around} {E : Value → Shared → Prop} {s : Shared} {t u : Tok}
theorem mulB {n : Int} {Q : Value → Shared → Prop} (h0 : 0 ≤ n) (h1 : n ≤ 1000) (h : ∀ (b : Array UInt8) t' k, KBw.bInts b = List.replicate n.toNat 0 → Q (.bytes b t') { s with toks := k }) :
    wpAny (model prog w) A (binaryOp .Mult (.bytes #[0] t) (.int n u)) Q E s :=
  bytes_mul_any (b := [0]) (by decide) (by omega) (by omega) (by decide) fun t' k => h _ t' k (bInts_zeros _)
theorem addB {b c : Array UInt8} {k : Nat} {ls : List Int} {Q : Value → Shared → Prop} (hb : KBw.bInts b = List.replicate k 0) (hk : k ≤ 1000) (hc : KBw.bInts c = ls) (hl : ls.length ≤ 1000)
    (h : ∀ (d : Array UInt8) t' k', KBw.bInts d = List.replicate k 0 ++ ls → Q (.bytes d t') { s with toks := k' }) : wpAny (model prog w) A (binaryOp .Add (.bytes b t) (.bytes c u)) Q E s :=
  KBa.add_K hb hc (by rw [List.length_replicate]; omega) fun t' k' e => h _ t' k' e
end
/-- what base58's decode tells -/
noncomputable def decB (ds : List Int) : List Int := if ds = [] then [] else List.replicate (lead ds.dropLast) 0 ++ minBytes (val 58 ds)
theorem dec_at {ds pre post : List Int} {pad c n : Int} {d : Array UInt8} (hd : Figs 58 ds) (h0 : 0 < ds.length) (hn : DN (KStt.codes (text58 ds)) n) (h : WS pre pad) (e : KStt.codes (text58 ds.dropLast) = pre ++ c :: post) (hc : idx58 c ≠ 0)
    (hb : KBw.bInts d = List.replicate pad.toNat 0 ++ minBytes n) : KBw.bInts d = decB ds := by
  rw [hb, ws_at (figs_last hd) h e hc, dn_end hd hn]
  unfold decB
  rw [if_neg (by intro h; rw [h] at h0; exact absurd h0 (by decide))]
theorem dec_all {ds : List Int} {pad n : Int} {d : Array UInt8} (hd : Figs 58 ds) (h0 : 0 < ds.length) (hn : DN (KStt.codes (text58 ds)) n) (h : WS (KStt.codes (text58 ds.dropLast)) pad)
    (hb : KBw.bInts d = List.replicate pad.toNat 0 ++ minBytes n) : KBw.bInts d = decB ds := by
  rw [hb, ws_all (figs_last hd) h, dn_end hd hn]
  unfold decB
  rw [if_neg (by intro h; rw [h] at h0; exact absurd h0 (by decide))]
theorem dec_none {ds : List Int} (h0 : ¬ 0 < ds.length) : KBw.bInts #[] = decB ds := by
  have : ds = [] := by cases ds with
    | nil => rfl
    | cons a r => exact absurd (Nat.succ_pos _) h0
  rw [this]; rfl
theorem pad_at {ds pre post : List Int} {pad c : Int} (hl : ds.length ≤ 100) (e : KStt.codes (text58 ds.dropLast) = pre ++ c :: post) (hp : pad = pre.length) : pad ≤ 1000 := by
  have h := congrArg List.length e
  rw [KStt.codes_length, text58_len, List.length_dropLast, List.length_append, List.length_cons] at h
  omega
theorem pad_all {ds : List Int} {pad : Int} (hl : ds.length ≤ 100) (hp : pad = (text58 ds.dropLast).length) : pad ≤ 1000 := by
  rw [text58_len, List.length_dropLast] at hp
  omega
theorem min_le {x : Int} {b : Array UInt8} (e : KBw.bInts b = minBytes x) (h : b.size ≤ 8) : (minBytes x).length ≤ 1000 := by
  rw [← e, KBw.ints_length]; omega
/-- RLP's whole number -/
def serB (x : Int) : List Int := if x = 0 then [] else minBytes x
theorem ser_0 {x : Int} (h : x = 0) : KBw.bInts #[] = serB x := by unfold serB; rw [if_pos h]; rfl
theorem ser_1 {x : Int} {b : Array UInt8} (h : x ≠ 0) (e : KBw.bInts b = minBytes x) : KBw.bInts b = serB x := by unfold serB; rw [if_neg h]; exact e
theorem size_0 : (#[] : Array UInt8).size ≤ 8 := by decide
end Mine
end
section
example : True := by
  w_top off
  trivial
open PySem PySem.W PyProof.Rows PySem.Calls
namespace Mine
/-- RLP's text of a whole number -/
def encB (x : Int) : List Int := if (serB x).length = 1 ∧ (serB x).getD 0 0 < 128 then serB x else (128 + ((serB x).length : Int)) :: serB x
theorem bInts_one {k : Nat} (hk : k ≤ 8) : KBw.bInts #[UInt8.ofNat (128 + k)] = [128 + (k : Int)] := by
  show [((UInt8.ofNat (128 + k)).toNat : Int)] = _
  rw [UInt8.toNat_ofNat']
  congr 1
  have : (128 + k) % 2 ^ 8 = 128 + k := by omega
  rw [this]; omega
section
variable {prog : Program} {w : World} {A : Around} {E : Value → Shared → Prop} {s : Shared} {K : Frag} {h₀ : Heap} {L a : Addr} {m : PySem.Str → Option Value} {n : Nat}
theorem allB {value slice : Expr} {l : List Value} {dd : Option Addr} {sl : Array (Option Value)} {k : Nat} {u : Tok} {Q : Value → Shared → Prop} (F : Fr h₀ L s.heap m) (X₀ : K.In h₀) (hl : K.lookup a = some ⟨.type "tuple", dd, .seq l.toArray n, sl⟩)
    (hlen : l.length = 256) (hall : ∀ i : Fin 9, ∃ tk, l[128 + i.val]? = some (.bytes #[UInt8.ofNat (128 + i.val)] tk)) (hk : k ≤ 8) (h : ∀ b tk, KBw.bInts b = [128 + (k : Int)] → Q (.bytes b tk) s)
    (hs : subscripted slice false (.ref a) (.int (128 + (k : Int)) u) = operate [.ref a, .int (128 + (k : Int)) u] (getItem (.ref a) (.int (128 + (k : Int)) u))) :
    wpAny (model prog w) A (subscriptTail value slice (.ref a) (.int (128 + (k : Int)) u)) Q E s := by
  obtain ⟨tk, e⟩ := hall ⟨k, by omega⟩
  refine topTup_K (j := 128 + k) F X₀ hl (by omega) (by omega) ?_ e (h _ _ (bInts_one hk)) hs
  rw [hlen, StrLaws.seqIndex_nonneg (by omega) (by omega)]
  congr 1
end
theorem enc_small {x : Int} {b : Array UInt8} (e : KBw.bInts b = serB x) (h1 : (b.size : Int) = 1) (h2 : (serB x).getD 0 0 < 128) : KBw.bInts b = encB x := by
  have hl : (serB x).length = 1 := by rw [← e, KBw.ints_length]; omega
  unfold encB
  rw [if_pos ⟨hl, h2⟩, e]
theorem enc_long {x : Int} {b d : Array UInt8} (e : KBw.bInts b = serB x) (h : (b.size : Int) ≠ 1 ∨ ¬ (serB x).getD 0 0 < 128) (hd : KBw.bInts d = [128 + ((b.size : Nat) : Int)] ++ serB x) : KBw.bInts d = encB x := by
  have hl : (serB x).length = b.size := by rw [← e, KBw.ints_length]
  unfold encB
  rw [hd, if_neg, hl]
  · rfl
  · rintro ⟨a1, a2⟩
    rcases h with h | h
    · omega
    · exact h a2
theorem enc_size {x : Int} {b d : Array UInt8} (e : KBw.bInts b = serB x) (h : b.size ≤ 8) (hd : KBw.bInts d = encB x) : d.size ≤ 9 := by
  have h1 : (serB x).length = b.size := by rw [← e, KBw.ints_length]
  have h2 : (encB x).length = d.size := by rw [← hd, KBw.ints_length]
  unfold encB at h2
  split at h2
  · omega
  · simp only [List.length_cons] at h2; omega
end Mine
end
section
example : True := by
  w_top off
  trivial
open PySem PySem.W PyProof.Rows PySem.Calls
namespace Mine
theorem ints_inj {b c : List UInt8} (h : b.map (fun x => (x.toNat : Int)) = c.map (fun x => (x.toNat : Int))) : b = c := by
  induction b generalizing c with
  | nil => cases c with
    | nil => rfl
    | cons _ _ => simp at h
  | cons x b ih => cases c with
    | nil => simp at h
    | cons y c =>
      simp only [List.map_cons, List.cons.injEq] at h
      obtain ⟨h1, h2⟩ := h
      have h3 : x.toNat = y.toNat := by omega
      rw [ih h2, UInt8.toNat_inj.mp h3]
theorem beq_ints (b c : Array UInt8) : (b.toList == c.toList) = decide (KBw.bInts b = KBw.bInts c) := by
  by_cases h : KBw.bInts b = KBw.bInts c
  · rw [decide_eq_true h, ints_inj h]
    exact beq_self_eq_true _
  · rw [decide_eq_false h]
    apply beq_eq_false_iff_ne.mpr
    intro e; exact h (by unfold KBw.bInts; rw [e])
section
variable {prog : Program} {w : World} {A : Around} {E : Value → Shared → Prop} {s : Shared} {b c : Array UInt8} {t u : Tok} {ks ls : List Int} {Q : Value → Shared → Prop} {value slice : PySem.Expr} {h₀ : Heap} {L : Addr} {m : PySem.Str → Option Value} {news : List (Addr × Obj)}
theorem eq_K (hb : KBw.bInts b = ks) (hc : KBw.bInts c = ls) (h : Q (.bool (decide (ks = ls))) s) : wpAny (model prog w) A (compareOp .Eq (.bytes b t) (.bytes c u)) Q E s := by
  refine eq_bytes ?_
  rw [beq_ints, hb, hc]; exact h
theorem ne_K (hb : KBw.bInts b = ks) (hc : KBw.bInts c = ls) (h : Q (.bool (!decide (ks = ls))) s) : wpAny (model prog w) A (compareOp .NotEq (.bytes b t) (.bytes c u)) Q E s := by
  refine ne_bytes ?_
  rw [show (b.toList != c.toList) = !(b.toList == c.toList) from rfl, beq_ints, hb, hc]; exact h
theorem take1_ne {ks : List Int} (h : ks.getD 0 1 ≠ 0) : (decide (ks.take 1 = [0])) = false := by
  cases ks with
  | nil => rfl
  | cons x r => simp at h ⊢; exact h
theorem one_ne {k : Int} (h : 0 < k) : (decide ([k] = [0])) = false := by
  apply decide_eq_false; intro e; injection e with e _; omega
theorem eq_one {k : Int} (hb : KBw.bInts b = [k]) (hk : 0 < k) (hc : KBw.bInts c = [0]) (h : Q (.bool false) s) : wpAny (model prog w) A (compareOp .Eq (.bytes b t) (.bytes c u)) Q E s := by
  refine eq_K hb hc ?_
  rw [one_ne hk]; exact h
theorem eq_tak {ks : List Int} (hb : KBw.bInts b = ks.take 1) (hk : ks.getD 0 1 ≠ 0) (hc : KBw.bInts c = [0]) (h : Q (.bool false) s) : wpAny (model prog w) A (compareOp .Eq (.bytes b t) (.bytes c u)) Q E s := by
  refine eq_K hb hc ?_
  rw [take1_ne hk]; exact h
theorem item_first {k : Int} {ui : Tok} (hk : KBw.bInts b = k :: ks) (hl : ks.length ≤ 100)
    (h : ∀ t' tk, Q (.int k t') { s with toks := tk })
    (hs : subscripted slice false (.bytes b t) (.int 0 ui) = operate [.bytes b t, .int 0 ui] (getItem (.bytes b t) (.int 0 ui)) := by with_unfolding_all rfl)
    (ht : ∀ r, letTemporaryGo value (.bytes b t) r = pure () := by intro _; with_unfolding_all rfl) : wpAny (model prog w) A (subscriptTail value slice (.bytes b t) (.int 0 ui)) Q E s :=
  KBw.item_K hk (by simp only [List.length_cons]; omega) (by decide) (by simp only [List.length_cons]; omega) (fun t' tk _ _ => h t' tk) hs ht
theorem item_second {k i : Int} {ui : Tok} (hi : i = 1) (hk : KBw.bInts b = k :: ks) (hl : ks.length ≤ 100) (h1 : 1 ≤ ks.length)
    (h : ∀ t' tk, Q (.int (ks.getD 0 0) t') { s with toks := tk })
    (hs : subscripted slice false (.bytes b t) (.int i ui) = operate [.bytes b t, .int i ui] (getItem (.bytes b t) (.int i ui)) := by with_unfolding_all rfl)
    (ht : ∀ r, letTemporaryGo value (.bytes b t) r = pure () := by intro _; with_unfolding_all rfl) : wpAny (model prog w) A (subscriptTail value slice (.bytes b t) (.int i ui)) Q E s := by
  subst hi
  exact KBw.item_K hk (by simp only [List.length_cons]; omega) (by decide) (by simp only [List.length_cons]; omega) (fun t' tk _ _ => h t' tk) hs ht
theorem cut_K {i j : Int} {ui uj : Tok} {rs : List Int} (hF : Fr h₀ L s.heap m) (hN : News h₀ L s.heap news) (hk : KBw.bInts b = ks) (hz : ks.length ≤ 16777216)
    (e : (ks.drop (clipAt ks.length i)).take (clipAt ks.length j - clipAt ks.length i) = rs)
    (h : ∀ c h' t' k, Fr h₀ L h' m → News h₀ L h' news → KBw.bInts c = rs → Q (.bytes c t') { s with heap := h', toks := k })
    (hs : subscripted slice false (.bytes b t) (.ref s.heap.objs.size) = operate [.ref s.heap.objs.size, .bytes b t] (getItem (.bytes b t) (.ref s.heap.objs.size)) := by with_unfolding_all rfl)
    (ht : ∀ r, letTemporaryGo value (.bytes b t) r = pure () := by intro _; with_unfolding_all rfl) :
    wpAny (model prog w) A (subscriptTail value slice (.bytes b t) (.ref s.heap.objs.size)) Q E { s with heap := s.heap.push { cls := .type "slice", data := .fields #[.int i ui, .int j uj, .none] } } :=
  KBc.slice_K hF hN hk (.int i ui) (.int j uj) hz (fun h' t' k F' N' e' => h _ _ _ _ F' N' (e'.trans e)) hs ht
end
theorem clip_of {n : Nat} {i : Int} (h0 : 0 ≤ i) : clipAt n i = min i.toNat n := by
  have := clipAt_nat n i.toNat
  rw [Int.toNat_of_nonneg h0] at this
  exact this
theorem cut_first {i j k : Int} {ks : List Int} (hi : i = 0) (hj : j = 1) : ((k :: ks).drop (clipAt (k :: ks).length i)).take (clipAt (k :: ks).length j - clipAt (k :: ks).length i) = [k] := by
  subst hi hj
  rw [clip_of (i := 0) (by decide), clip_of (i := 1) (by decide)]
  have e1 : min (0 : Int).toNat (k :: ks).length = 0 := by simp
  have e2 : min (1 : Int).toNat (k :: ks).length = 1 := by simp
  rw [e1, e2]; rfl
theorem cut_rest {i j k : Int} {ks : List Int} (hi : i = 1) (hj : j = 1 + ks.length) : ((k :: ks).drop (clipAt (k :: ks).length i)).take (clipAt (k :: ks).length j - clipAt (k :: ks).length i) = ks := by
  subst hi hj
  rw [clip_of (i := 1) (by decide), clip_of (show 0 ≤ 1 + (ks.length : Int) by omega)]
  have e1 : min (1 : Int).toNat (k :: ks).length = 1 := by simp
  have e2 : min (1 + (ks.length : Int)).toNat (k :: ks).length = 1 + ks.length := by simp only [List.length_cons]; omega
  rw [e1, e2]
  simp only [List.drop_one, List.tail_cons, Nat.add_sub_cancel_left, List.take_length]
theorem cut_one {i j : Int} {ks : List Int} (hi : i = 0) (hj : j = 1) : (ks.drop (clipAt ks.length i)).take (clipAt ks.length j - clipAt ks.length i) = ks.take 1 := by
  subst hi hj
  rw [clip_of (i := 0) (by decide), clip_of (i := 1) (by decide)]
  have e1 : min (0 : Int).toNat ks.length = 0 := by simp
  rw [e1, List.drop_zero, Nat.sub_zero]
  cases ks with
  | nil => rfl
  | cons _ _ => simp
end Mine
end
section
example : True := by
  w_top off
  trivial
open PySem PySem.W PyProof.Rows PySem.Calls
namespace Mine
theorem little_figs : ∀ (n : Nat) (x : Int), Figs 256 (KTBy.little n x)
  | 0, _ => .nil _
  | n + 1, x => fun k hk => by
    rcases List.mem_cons.mp hk with rfl | h
    · exact ⟨Int.emod_nonneg _ (by decide), Int.emod_lt_of_pos _ (by decide)⟩
    · exact little_figs n _ k h
theorem little_val : ∀ (n : Nat) (x : Int), 0 ≤ x → x < 256 ^ n → val 256 (KTBy.little n x).reverse = x
  | 0, x, h0, h1 => by
    have : x = 0 := by rw [Int.pow_zero] at h1; omega
    rw [this]; rfl
  | n + 1, x, h0, h1 => by
    show val 256 (x % 256 :: KTBy.little n (x / 256)).reverse = x
    have h2 : x / 256 < 256 ^ n := by
      rw [Int.pow_succ] at h1
      exact Int.ediv_lt_of_lt_mul (by decide) h1
    rw [List.reverse_cons, val_snoc, little_val n (x / 256) (Int.ediv_nonneg h0 (by decide)) h2]
    omega
theorem min_figs (x : Int) : Figs 256 (minBytes x) := figs_rev (little_figs _ _)
theorem min_val {x : Int} (h0 : 0 ≤ x) : val 256 (minBytes x) = x := little_val _ _ h0 (lt_kOf h0)
/-- the first figure is none of noughts -/
def Norm (ks : List Int) : Prop := ks.getD 0 1 ≠ 0
theorem norm_ge {B : Int} (hB : 0 < B) {k : Int} {ks : List Int} (hf : Figs B (k :: ks)) (h : Norm (k :: ks)) : B ^ ks.length ≤ val B (k :: ks) := by
  have h1 : k ≠ 0 := h
  have h2 := hf.head
  rw [val_cons]
  have h3 := (val_range hB hf.tail).1
  have h4 := pow_pos' hB ks.length
  have : B ^ ks.length * 1 ≤ B ^ ks.length * k := Int.mul_le_mul_of_nonneg_left (by omega) (by omega)
  rw [Int.mul_comm k]
  omega
theorem pow_mono {B : Int} (hB : 1 < B) {a b : Nat} (h : a ≤ b) : B ^ a ≤ B ^ b := by
  obtain ⟨c, rfl⟩ := Nat.exists_eq_add_of_le h
  rw [Int.pow_add]
  have h1 := pow_pos' (show 0 < B by omega) a
  have h2 := pow_pos' (show 0 < B by omega) c
  have : B ^ a * 1 ≤ B ^ a * B ^ c := Int.mul_le_mul_of_nonneg_left (by omega) (by omega)
  omega
theorem norm_len {B : Int} (hB : 1 < B) {xs ys : List Int} (hx : Figs B xs) (hy : Figs B ys) (ny : Norm ys) (h : val B xs = val B ys) : ys.length ≤ xs.length := by
  cases ys with
  | nil => simp
  | cons k ys =>
    have h1 := norm_ge (by omega) hy ny
    have h2 := (val_range (by omega) hx).2
    by_cases h3 : xs.length ≤ ys.length
    · have := pow_mono hB h3
      omega
    · simp only [List.length_cons]; omega
theorem norm_unique {B : Int} (hB : 1 < B) {xs ys : List Int} (hx : Figs B xs) (hy : Figs B ys) (nx : Norm xs) (ny : Norm ys) (h : val B xs = val B ys) : xs = ys :=
  val_unique (by omega) hx hy (Nat.le_antisymm (norm_len hB hy hx nx h.symm) (norm_len hB hx hy ny h)) h
open PySem.Builtin.Int (intBits)
theorem kOf_ge {x : Int} (h0 : 0 < x) : 256 ^ (kOf x - 1) ≤ x := by
  by_cases h : kOf x = 1
  · rw [h]; simp; omega
  · have hk : 1 ≤ kOf x := by unfold kOf; omega
    refine Int.not_lt.mp fun hlt => ?_
    have e2 : (2 : Nat) ^ 8 = 256 := by decide
    have hb : intBits x ≤ 8 * (kOf x - 1) := by
      refine intBits_le_iff.mpr ?_
      rw [Nat.pow_mul, e2]
      have h2 : ((x.natAbs : Nat) : Int) < ((256 ^ (kOf x - 1) : Nat) : Int) := by
        have e := KTBy.p256 (kOf x - 1)
        rw [KTBy.p256] at hlt
        omega
      exact Int.ofNat_lt.mp h2
    have : kOf x ≤ kOf x - 1 := by
      have h3 : kOf x = max 1 ((intBits x + 7) / 8) := rfl
      omega
    omega
theorem norm_of_ge {B : Int} (hB : 0 < B) {ks : List Int} (hf : Figs B ks) (h : ks.length = 0 ∨ B ^ (ks.length - 1) ≤ val B ks) : Norm ks := by
  cases ks with
  | nil => intro e; cases e
  | cons k ks =>
    intro (e : k = 0)
    subst e
    rcases h with h | h
    · cases h
    · have h2 := (val_range hB hf.tail).2
      rw [val_cons] at h
      simp only [List.length_cons, Nat.add_sub_cancel] at h
      omega
theorem min_norm {x : Int} (h0 : 0 < x) : Norm (minBytes x) := by
  refine norm_of_ge (B := 256) (by decide) (min_figs x) (.inr ?_)
  rw [min_length, min_val (by omega)]
  exact kOf_ge h0
theorem ser_figs (x : Int) : Figs 256 (serB x) := by
  unfold serB; split
  · exact .nil _
  · exact min_figs x
theorem ser_val {x : Int} (h0 : 0 ≤ x) : val 256 (serB x) = x := by
  unfold serB; split
  · rename_i h; rw [h]; rfl
  · exact min_val h0
theorem ser_norm {x : Int} (h0 : 0 ≤ x) : Norm (serB x) := by
  unfold serB; split
  · intro e; cases e
  · exact min_norm (by omega)
theorem ser_len {x : Int} (h0 : 0 ≤ x) (h : x < 2 ^ 64) : (serB x).length ≤ 8 := by
  unfold serB; split
  · simp
  · rw [min_length]; exact kOf_le h0 h
theorem drop_lead : ∀ ks : List Int, Norm (ks.drop (lead ks))
  | [] => by intro e; cases e
  | k :: r => by
    by_cases h : k = 0
    · have e : lead (k :: r) = lead r + 1 := by show (if k = 0 then lead r + 1 else 0) = _; rw [if_pos h]
      rw [e]; exact drop_lead r
    · have e : lead (k :: r) = 0 := by show (if k = 0 then lead r + 1 else 0) = _; rw [if_neg h]
      rw [e]; exact h
theorem lead_split : ∀ ks : List Int, ks = List.replicate (lead ks) 0 ++ ks.drop (lead ks)
  | [] => rfl
  | k :: r => by
    by_cases h : k = 0
    · have e : lead (k :: r) = lead r + 1 := by show (if k = 0 then lead r + 1 else 0) = _; rw [if_pos h]
      rw [e, List.replicate_succ, List.drop_succ_cons, h, List.cons_append, ← lead_split r]
    · have e : lead (k :: r) = 0 := by show (if k = 0 then lead r + 1 else 0) = _; rw [if_neg h]
      rw [e]; rfl
theorem drop_figs {B : Int} {ks : List Int} (h : Figs B ks) (n : Nat) : Figs B (ks.drop n) := fun x hx => h x (List.mem_of_mem_drop hx)
theorem drop_val (ks : List Int) (B : Int) : val B (ks.drop (lead ks)) = val B ks := by
  conv => rhs; rw [lead_split ks]
  rw [val_zeros_app]
/-- RLP's whole number is the octets without the noughts ahead -/
theorem ser_octets {ks : List Int} (h : Figs 256 ks) : serB (val 256 ks) = ks.drop (lead ks) := by
  have h0 := (val_range (B := 256) (by decide) h).1
  refine norm_unique (by decide) (ser_figs _) (drop_figs h _) (ser_norm h0) (drop_lead ks) ?_
  rw [ser_val h0, drop_val]
theorem min_octets {ks : List Int} (h : Figs 256 ks) (hp : 0 < val 256 ks) : minBytes (val 256 ks) = ks.drop (lead ks) := by
  rw [← ser_octets h]; unfold serB; rw [if_neg (by omega)]
theorem lead_rep (n : Nat) (xs : List Int) : lead (List.replicate n 0 ++ xs) = n + lead xs := by
  induction n with
  | zero => simp
  | succ n ih =>
    rw [List.replicate_succ, List.cons_append]
    show (if (0 : Int) = 0 then lead (List.replicate n 0 ++ xs) + 1 else 0) = _
    rw [if_pos rfl, ih]; omega
theorem lead_norm {xs : List Int} (h : Norm xs) : lead xs = 0 := by
  cases xs with
  | nil => rfl
  | cons k r =>
    have h1 : k ≠ 0 := h
    show (if k = 0 then lead r + 1 else 0) = 0
    rw [if_neg h1]
theorem norm_last {xs : List Int} (h : Norm xs) : Norm xs.dropLast := by
  cases xs with
  | nil => exact h
  | cons k r =>
    cases r with
    | nil => intro e; cases e
    | cons j r => exact h
theorem val_zero {B : Int} (hB : 1 < B) {ks : List Int} (hf : Figs B ks) (h : val B ks = 0) : ks.drop (lead ks) = [] := by
  refine norm_unique hB (drop_figs hf _) (.nil _) (drop_lead ks) (by intro e; cases e) ?_
  rw [drop_val, h]; rfl
theorem min_zero : minBytes 0 = [0] := by decide +kernel
/-- back by base58 -/
theorem dec_back {ks es : List Int} (hk : Figs 256 ks) (he : Figs 58 es) (hv : val 58 es = val 256 ks) (hn : Norm es) : decB (List.replicate (lead ks) 0 ++ es) = ks := by
  have h0 := (val_range (B := 256) (by decide) hk).1
  have hvv : val 58 (List.replicate (lead ks) 0 ++ es) = val 256 ks := by rw [val_zeros_app, hv]
  unfold decB
  by_cases hz : val 256 ks = 0
  · have e1 := val_zero (by decide) hk hz
    have e2 : es = [] := norm_unique (B := 58) (by decide) he (.nil _) hn (by intro e; cases e) (by rw [hv, hz]; rfl)
    have e3 : ks = List.replicate (lead ks) 0 := by
      have := lead_split ks
      rw [e1, List.append_nil] at this
      exact this
    subst e2
    rw [List.append_nil] at hvv ⊢
    rw [hvv, hz, min_zero]
    generalize lead ks = n at e3
    subst e3
    cases n with
    | zero => rfl
    | succ n =>
      rw [if_neg (by simp), List.dropLast_replicate]
      have : lead (List.replicate (n + 1 - 1) (0 : Int)) = n := by
        have := lead_rep n []
        simpa [show lead [] = 0 from rfl] using this
      rw [this, List.replicate_succ']
  · have hne : es ≠ [] := by
      intro e
      rw [e] at hv
      exact hz hv.symm
    rw [if_neg (by simp [hne]), hvv, List.dropLast_append_of_ne_nil hne, lead_rep, lead_norm (norm_last hn), Nat.add_zero, min_octets hk (by omega)]
    exact (lead_split ks).symm
end Mine
end
section
example : True := by
  w_top off
  trivial
open PySem PySem.W PyProof.Rows PySem.Calls
namespace Mine
theorem p8 : (2 : Int) ^ (8 : Int).toNat = 256 := by decide
theorem p5 : (2 : Int) ^ (5 : Int).toNat = 32 := by decide
/-- octets to groups of five: never none -/
theorem g85 {ks : List Int} {r : Option (List Int)} (hk : Figs 256 ks) (h : CB 8 5 true ks r) :
    ∃ (gs : List Int) (e : Nat), r = some gs ∧ Figs 32 gs ∧ 5 * gs.length = 8 * ks.length + e ∧ e < 5 ∧ val 32 gs = val 256 ks * 2 ^ e := by
  cases r with
  | none =>
    rcases h with ⟨x, hx, ho⟩ | ⟨h, _⟩
    · rw [p8] at ho
      have := hk x hx
      omega
    · cases h
  | some gs =>
    obtain ⟨h1, h2, h3⟩ := h
    rw [if_pos rfl] at h3
    obtain ⟨e, e1, e2, e3⟩ := h3
    rw [p5] at h2 e3
    rw [p8] at e3
    exact ⟨gs, e, rfl, h2, by omega, by omega, e3⟩
theorem g85_len {a b e : Nat} (h : 5 * a = 8 * b + e) (he : e < 5) : a = (8 * b + 4) / 5 := by omega
/-- and back -/
theorem g58 {ks gs : List Int} {e : Nat} {r : Option (List Int)} (hk : Figs 256 ks) (hg : Figs 32 gs) (h1 : 5 * gs.length = 8 * ks.length + e) (h2 : e < 5) (h3 : val 32 gs = val 256 ks * 2 ^ e) (h : CB 5 8 false gs r) : r = some ks := by
  refine cb_unique (f := 5) (u := 8) (by decide) (by decide) h ?_
  refine ⟨by rw [p5]; exact hg, by rw [p8]; exact hk, ?_⟩
  rw [if_neg (by decide)]
  exact ⟨e, by omega, by omega, by omega, by rw [p5, p8]; exact h3⟩
/-- RLP: a number's text is read back: the two shapes -/
theorem encB_cases {x : Int} (h0 : 0 ≤ x) (h1 : x < 2 ^ 64) : (∃ k, encB x = [k] ∧ k < 128 ∧ 0 < k ∧ val 256 [k] = x) ∨
    (encB x = (128 + (((serB x).length : Nat) : Int)) :: serB x ∧ (serB x).length ≤ 8 ∧ ((serB x).length ≠ 1 ∨ ¬ (serB x).getD 0 0 < 128) ∧ (serB x).getD 0 1 ≠ 0 ∧ val 256 (serB x) = x) := by
  by_cases h : (serB x).length = 1 ∧ (serB x).getD 0 0 < 128
  · left
    obtain ⟨a1, a2⟩ := h
    have hf := ser_figs x
    have hn := ser_norm h0
    have hv := ser_val h0
    have e : encB x = serB x := by unfold encB; rw [if_pos ⟨a1, a2⟩]
    match hs : serB x, a1 with
    | [k], _ =>
      rw [hs] at a2 hf hn hv e
      have h3 : k ≠ 0 := hn
      have h4 : k < 128 := a2
      exact ⟨k, e, h4, by have := hf.head; omega, hv⟩
  · right
    refine ⟨by unfold encB; rw [if_neg h], ser_len h0 h1, ?_, ser_norm h0, ser_val h0⟩
    by_cases h' : (serB x).length = 1
    · exact .inr fun c => h ⟨h', c⟩
    · exact .inl h'
end Mine
end
section
example : True := by
  w_top off
  trivial
open PySem PySem.W PyProof.Rows
namespace Mine
example : PySem.Challenge.rw_vn0015_01 = PySem.Challenge.rw_vn0015_01 ∧ Mine.hd.heap_39 = Mine.hd.heap_39 := by
  k_fill
  exact ⟨rfl, rfl⟩

local macro_rules | `(tactic| k_memK) => `(tactic| assumption)
local macro_rules | `(tactic| kst_facts1) => `(tactic| first | exact IntsAre.nil | exact IntsAre.append (by with_reducible assumption) (.cons _ _ .nil) | with_reducible assumption | exact PyProof.Rows.StrsAre.nil | exact PyProof.Rows.StrsAre.append' (by with_reducible assumption) (.cons _ _ .nil))
local macro_rules | `(tactic| walk_at "call ref") => `(tactic| (k_here; (with_reducible show wpAny _ _ (call (Value.ref _) [Value.bytes _ _, Value.str _ _]) _ _ _); k_dflt (refine call_from (by k_asm) (by k_mem) (by assumption) (by omega) ?_); intro _ _))
local macro_rules | `(tactic| cell_enter) => `(tactic| (refine' code_def ?k1 ?k2 ?k3 ?k4 ?k5 ?kA ?kF ?kK ?k6 ?k7 ?k8 ?k9 ?kB ?_ ?c2 ?c3 ?c4 ?c5; (case kA => exact rfl); (case kF => exact rfl); (case kK => first | assumption | exact rfl); (case k1 => k_asm); (case k2 => k_asm); (case k3 => k_asm); (case k4 => k_asm); (case k5 => k_asm); (case k6 => k_is); (case k7 => k_is); (case k8 => ktr_room); (case k9 => first | exact BindsTo.of_eq rfl | exact binds_K (by k_in) rfl (by k_is) rfl rfl rfl); (case c5 => decide); (case kB => exact locs rfl); (case c2 => exact rfl); (case c3 => exact rfl); (case c4 => exact rfl); k_whole; intro g' L' h' FG' F' N' B' X' T'; (try dsimp only); (try k_lift B'); (try k_fold)))
local macro_rules | `(tactic| walk_at "call ref") => `(tactic| (k_here; (with_reducible show wpAny _ _ (call (Value.ref _) _) _ _ _); (refine wpAny_call ?_); k_dflt cell_enter))
local macro_rules | `(tactic| walk_at "getAttr int") => `(tactic| (k_here; (refine int_class ?_); intro _))
local macro_rules | `(tactic| walk_at "call builtin:hasattr") => `(tactic| (k_here; k_dflt (refine has_missF (by k_asm) (by k_asm) (by rfl) ?_); intro h' tk' F' N'; (try k_sweep)))

local macro_rules | `(tactic| walk_at "binaryOp LShift int int") => `(tactic| (k_here; (refine lshift_int_small (by omega) (by omega) (by omega) ?_)))

set_option maxHeartbeats 4000000 in
theorem conv_bytes_71 {w : World} {dp un : Nat} {gd : Option (List Code)} {cn : Str} {cs : Scope} {a : Addr} {ccd : Value} {cl : List (Str × Addr)} {outer : List Env} {A₀ : Around} {base h₀ : Heap} {L : Addr} {m : Str → Option Value} {s : Shared} {Q E : Value → Shared → Prop}
    {p : Program} {loose : List Str} {mean : ExcName → Option Value} {mg mb : Str → Option Value} {news : List (Addr × Obj)} {b : Array UInt8} {ks : List Int} {t : Tok} {f u : Int} {tf tu : Tok}
    (Bl : Below A₀ base outer h₀) (F : Fr h₀ L s.heap m) (X : (Mine.hd.heap_39 w.params).In h₀) (N : News h₀ L s.heap news) (T : Top p loose mean mg mb h₀) (hk : cs.kind = .function) (hd : dp + 20 < recursionLimit) (hu : un + 200 < cLine)
    (hb : KBw.bInts b = ks) (hl : ks.length ≤ 100) (hf : 1 ≤ f) (hf' : f ≤ 9) (hu1 : 1 ≤ u) (hu' : u ≤ 9)
    (hnone : CB f u true ks none → ∀ h' tk', Fr h₀ L h' m → News h₀ L h' news → Q .none { s with heap := h', toks := tk' })
    (hsome : ∀ ys, CB f u true ks (some ys) → ∀ l vs n h' tk', Fr h₀ L h' m → News h₀ L h' ((l, listOf vs.toArray n) :: news) → IntsAre vs ys → AllLt l news → Q (.ref l) { s with heap := h', toks := tk' }) :
    wpAny (model PySem.Challenge.pw_vn0015_01 w) (ktrTop dp un gd cn cs L a ccd cl outer) (call (.ref 71) [.bytes b t, .int f tf, .int u tu]) Q E s := by
  refine wpAny_call ?_
  k_dflt cell_enter
  k_with "pyIter bytes" => k_state (fun pre acc bits ret => IX f u pre acc bits ret) "acc" "bits" "ret"
  k_with "exec While Compare cons nil" => k_while_given ["acc"] (fun acc script bits ret => WX f u (val (2 ^ f.toNat) (kPre ++ [kN])) (kPre.length + 1) acc bits ret) (fun acc script bits ret => bits.toNat) "bits" "ret"
  k_with "state" => first | exact ix (iw_start hf hu1) | exact wx (ww_enter hf hf' hu1 hu' (by omega) (by assumption) (by omega) (by assumption)) | exact wx (ww_turn hf' hu1 (by omega) (by assumption) (by omega)) | exact ix (iw_leave hu1 (by assumption) (by omega) (by assumption) (by assumption) (by omega)) | fail "state: none"
  k_steps
  · exact hnone (by rw [kEq]; exact cb_out (.inr (out_not (by assumption) (by assumption)))) _ _ (by assumption) (cb_drop (by assumption) (by intro p hp; simp [hp]))
  · (rename News _ _ _ _ => nE)
    simp only [List.push_toArray] at nE
    exact hsome _ (cb_pad hf (IW.inv (by assumption)) (by assumption)) _ _ _ _ _ (by assumption) nE (IntsAre.append (by assumption) (.cons _ _ .nil)) (allLt_of (by assumption))
  · exact hsome _ (cb_pad0' (IW.inv (by assumption)) (by assumption)) _ _ _ _ _ (by assumption) (by assumption) (by assumption) (allLt_of (by assumption))
end Mine
end
section
example : True := by
  w_top off
  trivial
local macro_rules | `(tactic| walk_at "no such word") => `(tactic| fail "none")
local macro_rules | `(tactic| walk_at "no such word") => `(tactic| fail "none")
local macro_rules | `(tactic| walk_at "no such word") => `(tactic| fail "none")
local macro_rules | `(tactic| walk_at "no such word") => `(tactic| fail "none")
local macro_rules | `(tactic| walk_at "no such word") => `(tactic| fail "none")
local macro_rules | `(tactic| walk_at "no such word") => `(tactic| fail "none")
local macro_rules | `(tactic| walk_at "no such word") => `(tactic| fail "none")
local macro_rules | `(tactic| walk_at "no such word") => `(tactic| fail "none")
local macro_rules | `(tactic| walk_at "no such word") => `(tactic| fail "none")
local macro_rules | `(tactic| walk_at "no such word") => `(tactic| fail "none")
local macro_rules | `(tactic| walk_at "no such word") => `(tactic| fail "none")
local macro_rules | `(tactic| walk_at "no such word") => `(tactic| fail "none")
local macro_rules | `(tactic| walk_at "no such word") => `(tactic| fail "none")
local macro_rules | `(tactic| walk_at "no such word") => `(tactic| fail "none")
local macro_rules | `(tactic| walk_at "no such word") => `(tactic| fail "none")
local macro_rules | `(tactic| walk_at "no such word") => `(tactic| fail "none")
local macro_rules | `(tactic| walk_at "no such word") => `(tactic| fail "none")
local macro_rules | `(tactic| walk_at "no such word") => `(tactic| fail "none")
local macro_rules | `(tactic| walk_at "no such word") => `(tactic| fail "none")
local macro_rules | `(tactic| walk_at "no such word") => `(tactic| fail "none")
local macro_rules | `(tactic| walk_at "no such word") => `(tactic| fail "none")
local macro_rules | `(tactic| walk_at "no such word") => `(tactic| fail "none")
local macro_rules | `(tactic| walk_at "no such word") => `(tactic| fail "none")
local macro_rules | `(tactic| walk_at "no such word") => `(tactic| fail "none")
local macro_rules | `(tactic| walk_at "no such word") => `(tactic| fail "none")
local macro_rules | `(tactic| walk_at "no such word") => `(tactic| fail "none")
local macro_rules | `(tactic| walk_at "no such word") => `(tactic| fail "none")
local macro_rules | `(tactic| walk_at "no such word") => `(tactic| fail "none")
local macro_rules | `(tactic| walk_at "no such word") => `(tactic| fail "none")
local macro_rules | `(tactic| walk_at "no such word") => `(tactic| fail "none")
local macro_rules | `(tactic| walk_at "no such word") => `(tactic| fail "none")
local macro_rules | `(tactic| walk_at "no such word") => `(tactic| fail "none")
local macro_rules | `(tactic| walk_at "no such word") => `(tactic| fail "none")
local macro_rules | `(tactic| walk_at "no such word") => `(tactic| fail "none")
local macro_rules | `(tactic| walk_at "no such word") => `(tactic| fail "none")
local macro_rules | `(tactic| walk_at "no such word") => `(tactic| fail "none")
local macro_rules | `(tactic| walk_at "no such word") => `(tactic| fail "none")
local macro_rules | `(tactic| walk_at "no such word") => `(tactic| fail "none")
local macro_rules | `(tactic| walk_at "no such word") => `(tactic| fail "none")
local macro_rules | `(tactic| walk_at "no such word") => `(tactic| fail "none")
open PySem PySem.W PyProof.Rows
namespace Mine
example : PySem.Challenge.rw_vn0015_01 = PySem.Challenge.rw_vn0015_01 ∧ Mine.hd.heap_39 = Mine.hd.heap_39 := by
  k_fill
  exact ⟨rfl, rfl⟩

local macro_rules | `(tactic| k_memK) => `(tactic| assumption)
local macro_rules | `(tactic| kst_facts1) => `(tactic| first | exact IntsAre.nil | exact IntsAre.append (by with_reducible assumption) (.cons _ _ .nil) | with_reducible assumption | exact PyProof.Rows.StrsAre.nil | exact PyProof.Rows.StrsAre.append' (by with_reducible assumption) (.cons _ _ .nil))
local macro_rules | `(tactic| walk_at "call ref") => `(tactic| (k_here; (with_reducible show wpAny _ _ (call (Value.ref _) [Value.bytes _ _, Value.str _ _]) _ _ _); k_dflt (refine call_from (by k_asm) (by k_mem) (by assumption) (by omega) ?_); intro _ _))
local macro_rules | `(tactic| cell_enter) => `(tactic| (refine' code_def ?k1 ?k2 ?k3 ?k4 ?k5 ?kA ?kF ?kK ?k6 ?k7 ?k8 ?k9 ?kB ?_ ?c2 ?c3 ?c4 ?c5; (case kA => exact rfl); (case kF => exact rfl); (case kK => first | assumption | exact rfl); (case k1 => k_asm); (case k2 => k_asm); (case k3 => k_asm); (case k4 => k_asm); (case k5 => k_asm); (case k6 => k_is); (case k7 => k_is); (case k8 => ktr_room); (case k9 => first | exact BindsTo.of_eq rfl | exact binds_K (by k_in) rfl (by k_is) rfl rfl rfl); (case c5 => decide); (case kB => exact locs rfl); (case c2 => exact rfl); (case c3 => exact rfl); (case c4 => exact rfl); k_whole; intro g' L' h' FG' F' N' B' X' T'; (try dsimp only); (try k_lift B'); (try k_fold)))
local macro_rules | `(tactic| walk_at "call ref") => `(tactic| (k_here; (with_reducible show wpAny _ _ (call (Value.ref _) _) _ _ _); (refine wpAny_call ?_); k_dflt cell_enter))
local macro_rules | `(tactic| walk_at "getAttr int") => `(tactic| (k_here; (refine int_class ?_); intro _))
local macro_rules | `(tactic| walk_at "call builtin:hasattr") => `(tactic| (k_here; k_dflt (refine has_missF (by k_asm) (by k_asm) (by rfl) ?_); intro h' tk' F' N'; (try k_sweep)))

local macro_rules | `(tactic| walk_at "binaryOp LShift int int") => `(tactic| (k_here; (refine lshift_int_small (by omega) (by omega) (by omega) ?_)))

set_option maxHeartbeats 4000000 in
theorem conv_list_71 {w : World} {dp un : Nat} {gd : Option (List Code)} {cn : Str} {cs : Scope} {a : Addr} {ccd : Value} {cl : List (Str × Addr)} {outer : List Env} {A₀ : Around} {base h₀ : Heap} {L : Addr} {m : Str → Option Value} {s : Shared} {Q E : Value → Shared → Prop}
    {p : Program} {loose : List Str} {mean : ExcName → Option Value} {mg mb : Str → Option Value} {news : List (Addr × Obj)} {d : Addr} {dv : List Value} {dn : Nat} {ks : List Int} {pad : Bool} {f u : Int} {tf tu : Tok}
    (Bl : Below A₀ base outer h₀) (F : Fr h₀ L s.heap m) (X : (Mine.hd.heap_39 w.params).In h₀) (N : News h₀ L s.heap news) (T : Top p loose mean mg mb h₀) (hk : cs.kind = .function) (hd : dp + 20 < recursionLimit) (hu : un + 200 < cLine)
    (hm : (d, listOf dv.toArray dn) ∈ news) (hi : IntsAre dv ks) (hl : ks.length ≤ 100) (hf : 1 ≤ f) (hf' : f ≤ 9) (hu1 : 1 ≤ u) (hu' : u ≤ 9)
    (hnone : CB f u pad ks none → ∀ h' tk', Fr h₀ L h' m → News h₀ L h' news → Q .none { s with heap := h', toks := tk' })
    (hsome : ∀ ys, CB f u pad ks (some ys) → ∀ l vs n h' tk', Fr h₀ L h' m → News h₀ L h' ((l, listOf vs.toArray n) :: news) → IntsAre vs ys → AllLt l news → Q (.ref l) { s with heap := h', toks := tk' }) :
    wpAny (model PySem.Challenge.pw_vn0015_01 w) (ktrTop dp un gd cn cs L a ccd cl outer) (call (.ref 71) [.ref d, .int f tf, .int u tu, .bool pad]) Q E s := by
  refine wpAny_call ?_
  k_dflt cell_enter
  k_with "pyIter ref" => k_state (fun pre acc bits ret => IX f u pre acc bits ret) "acc" "bits" "ret"
  k_with "exec While Compare cons nil" => k_while_given ["acc"] (fun acc script bits ret => WX f u (val (2 ^ f.toNat) (kPre ++ [kN])) (kPre.length + 1) acc bits ret) (fun acc script bits ret => bits.toNat) "bits" "ret"
  k_with "state" => first | exact ix (iw_start hf hu1) | exact wx (ww_enter hf hf' hu1 hu' (by omega) (by assumption) (by omega) (by assumption)) | exact wx (ww_turn hf' hu1 (by omega) (by assumption) (by omega)) | exact ix (iw_leave hu1 (by assumption) (by omega) (by assumption) (by assumption) (by omega)) | fail "state: none"
  k_steps
  · exact hnone (by rw [kEq]; exact cb_out (.inl (by assumption))) _ _ (by assumption) (cb_drop (by assumption) (by intro p hp; simp [hp]))
  · exact hnone (by rw [kEq]; exact cb_out (.inr (out_not (by omega) (by assumption)))) _ _ (by assumption) (cb_drop (by assumption) (by intro p hp; simp [hp]))
  · (rename (pad = true) => hp)
    subst hp
    (rename News _ _ _ _ => nE)
    simp only [List.push_toArray] at nE
    exact hsome _ (cb_pad hf (IW.inv (by assumption)) (by assumption)) _ _ _ _ _ (by assumption) nE (IntsAre.append (by assumption) (.cons _ _ .nil)) (allLt_of (by assumption))
  · (rename (pad = true) => hp)
    subst hp
    exact hsome _ (cb_pad0' (IW.inv (by assumption)) (by assumption)) _ _ _ _ _ (by assumption) (by assumption) (by assumption) (allLt_of (by assumption))
  · (rename (pad = false) => hp)
    subst hp
    exact hnone (cb_no1 (IW.inv (by assumption)) (by assumption)) _ _ (by assumption) (cb_drop (by assumption) (by intro p hp; simp [hp]))
  · (rename (pad = false) => hp)
    subst hp
    exact hnone (cb_no2 hf (IW.inv (by assumption)) (by assumption)) _ _ (by assumption) (cb_drop (by assumption) (by intro p hp; simp [hp]))
  · (rename (pad = false) => hp)
    subst hp
    exact hsome _ (cb_yes hf (IW.inv (by assumption)) (by omega) (by assumption)) _ _ _ _ _ (by assumption) (by assumption) (by assumption) (allLt_of (by assumption))
end Mine
end
section
example : True := by
  w_top off
  trivial
open PySem PySem.W PyProof.Rows
namespace Mine
example : PySem.Challenge.rw_vn0015_01 = PySem.Challenge.rw_vn0015_01 ∧ Mine.hd.heap_39 = Mine.hd.heap_39 := by
  k_fill
  exact ⟨rfl, rfl⟩

local macro_rules | `(tactic| k_memK) => `(tactic| assumption)
local macro_rules | `(tactic| kst_facts1) => `(tactic| first | exact IntsAre.nil | exact IntsAre.append (by with_reducible assumption) (.cons _ _ .nil) | with_reducible assumption | exact PyProof.Rows.StrsAre.nil | exact PyProof.Rows.StrsAre.append' (by with_reducible assumption) (.cons _ _ .nil))
local macro_rules | `(tactic| walk_at "call ref") => `(tactic| (k_here; (with_reducible show wpAny _ _ (call (Value.ref _) [Value.bytes _ _, Value.str _ _]) _ _ _); k_dflt (refine call_from (by k_asm) (by k_mem) (by assumption) (by omega) ?_); intro _ _))
local macro_rules | `(tactic| cell_enter) => `(tactic| (refine' code_def ?k1 ?k2 ?k3 ?k4 ?k5 ?kA ?kF ?kK ?k6 ?k7 ?k8 ?k9 ?kB ?_ ?c2 ?c3 ?c4 ?c5; (case kA => exact rfl); (case kF => exact rfl); (case kK => first | assumption | exact rfl); (case k1 => k_asm); (case k2 => k_asm); (case k3 => k_asm); (case k4 => k_asm); (case k5 => k_asm); (case k6 => k_is); (case k7 => k_is); (case k8 => ktr_room); (case k9 => first | exact BindsTo.of_eq rfl | exact binds_K (by k_in) rfl (by k_is) rfl rfl rfl); (case c5 => decide); (case kB => exact locs rfl); (case c2 => exact rfl); (case c3 => exact rfl); (case c4 => exact rfl); k_whole; intro g' L' h' FG' F' N' B' X' T'; (try dsimp only); (try k_lift B'); (try k_fold)))
local macro_rules | `(tactic| walk_at "call ref") => `(tactic| (k_here; (with_reducible show wpAny _ _ (call (Value.ref _) _) _ _ _); (refine wpAny_call ?_); k_dflt cell_enter))
local macro_rules | `(tactic| walk_at "getAttr int") => `(tactic| (k_here; (refine int_class ?_); intro _))
local macro_rules | `(tactic| walk_at "call builtin:hasattr") => `(tactic| (k_here; k_dflt (refine has_missF (by k_asm) (by k_asm) (by rfl) ?_); intro h' tk' F' N'; (try k_sweep)))

local macro_rules | `(tactic| walk_at "binaryOp LShift int int") => `(tactic| (k_here; (refine lshift_int_small (by omega) (by omega) (by omega) ?_)))

set_option maxHeartbeats 4000000 in
theorem conv_bytes_79 {w : World} {dp un : Nat} {gd : Option (List Code)} {cn : Str} {cs : Scope} {a : Addr} {ccd : Value} {cl : List (Str × Addr)} {outer : List Env} {A₀ : Around} {base h₀ : Heap} {L : Addr} {m : Str → Option Value} {s : Shared} {Q E : Value → Shared → Prop}
    {p : Program} {loose : List Str} {mean : ExcName → Option Value} {mg mb : Str → Option Value} {news : List (Addr × Obj)} {b : Array UInt8} {ks : List Int} {t : Tok} {f u : Int} {tf tu : Tok}
    (Bl : Below A₀ base outer h₀) (F : Fr h₀ L s.heap m) (X : (Mine.hd.heap_39 w.params).In h₀) (N : News h₀ L s.heap news) (T : Top p loose mean mg mb h₀) (hk : cs.kind = .function) (hd : dp + 20 < recursionLimit) (hu : un + 200 < cLine)
    (hb : KBw.bInts b = ks) (hl : ks.length ≤ 100) (hf : 1 ≤ f) (hf' : f ≤ 9) (hu1 : 1 ≤ u) (hu' : u ≤ 9)
    (hnone : CB f u true ks none → ∀ h' tk', Fr h₀ L h' m → News h₀ L h' news → Q .none { s with heap := h', toks := tk' })
    (hsome : ∀ ys, CB f u true ks (some ys) → ∀ l vs n h' tk', Fr h₀ L h' m → News h₀ L h' ((l, listOf vs.toArray n) :: news) → IntsAre vs ys → AllLt l news → Q (.ref l) { s with heap := h', toks := tk' }) :
    wpAny (model PySem.Challenge.pw_vn0015_01 w) (ktrTop dp un gd cn cs L a ccd cl outer) (call (.ref 79) [.bytes b t, .int f tf, .int u tu]) Q E s := by
  refine wpAny_call ?_
  k_dflt cell_enter
  k_with "pyIter bytes" => k_state (fun pre acc bits ret => IX f u pre acc bits ret) "acc" "bits" "ret"
  k_with "exec While Compare cons nil" => k_while_given ["acc"] (fun acc script bits ret => WX f u (val (2 ^ f.toNat) (kPre ++ [kN])) (kPre.length + 1) acc bits ret) (fun acc script bits ret => bits.toNat) "bits" "ret"
  k_with "state" => first | exact ix (iw_start hf hu1) | exact wx (ww_enter hf hf' hu1 hu' (by omega) (by assumption) (by omega) (by assumption)) | exact wx (ww_turn hf' hu1 (by omega) (by assumption) (by omega)) | exact ix (iw_leave hu1 (by assumption) (by omega) (by assumption) (by assumption) (by omega)) | fail "state: none"
  k_steps
  · exact hnone (by rw [kEq]; exact cb_out (.inr (out_not (by assumption) (by assumption)))) _ _ (by assumption) (cb_drop (by assumption) (by intro p hp; simp [hp]))
  · (rename News _ _ _ _ => nE)
    simp only [List.push_toArray] at nE
    exact hsome _ (cb_pad hf (IW.inv (by assumption)) (by assumption)) _ _ _ _ _ (by assumption) nE (IntsAre.append (by assumption) (.cons _ _ .nil)) (allLt_of (by assumption))
  · exact hsome _ (cb_pad0' (IW.inv (by assumption)) (by assumption)) _ _ _ _ _ (by assumption) (by assumption) (by assumption) (allLt_of (by assumption))

set_option maxHeartbeats 4000000 in
theorem conv_list_79 {w : World} {dp un : Nat} {gd : Option (List Code)} {cn : Str} {cs : Scope} {a : Addr} {ccd : Value} {cl : List (Str × Addr)} {outer : List Env} {A₀ : Around} {base h₀ : Heap} {L : Addr} {m : Str → Option Value} {s : Shared} {Q E : Value → Shared → Prop}
    {p : Program} {loose : List Str} {mean : ExcName → Option Value} {mg mb : Str → Option Value} {news : List (Addr × Obj)} {d : Addr} {dv : List Value} {dn : Nat} {ks : List Int} {pad : Bool} {f u : Int} {tf tu : Tok}
    (Bl : Below A₀ base outer h₀) (F : Fr h₀ L s.heap m) (X : (Mine.hd.heap_39 w.params).In h₀) (N : News h₀ L s.heap news) (T : Top p loose mean mg mb h₀) (hk : cs.kind = .function) (hd : dp + 20 < recursionLimit) (hu : un + 200 < cLine)
    (hm : (d, listOf dv.toArray dn) ∈ news) (hi : IntsAre dv ks) (hl : ks.length ≤ 100) (hf : 1 ≤ f) (hf' : f ≤ 9) (hu1 : 1 ≤ u) (hu' : u ≤ 9)
    (hnone : CB f u pad ks none → ∀ h' tk', Fr h₀ L h' m → News h₀ L h' news → Q .none { s with heap := h', toks := tk' })
    (hsome : ∀ ys, CB f u pad ks (some ys) → ∀ l vs n h' tk', Fr h₀ L h' m → News h₀ L h' ((l, listOf vs.toArray n) :: news) → IntsAre vs ys → AllLt l news → Q (.ref l) { s with heap := h', toks := tk' }) :
    wpAny (model PySem.Challenge.pw_vn0015_01 w) (ktrTop dp un gd cn cs L a ccd cl outer) (call (.ref 79) [.ref d, .int f tf, .int u tu, .bool pad]) Q E s := by
  refine wpAny_call ?_
  k_dflt cell_enter
  k_with "pyIter ref" => k_state (fun pre acc bits ret => IX f u pre acc bits ret) "acc" "bits" "ret"
  k_with "exec While Compare cons nil" => k_while_given ["acc"] (fun acc script bits ret => WX f u (val (2 ^ f.toNat) (kPre ++ [kN])) (kPre.length + 1) acc bits ret) (fun acc script bits ret => bits.toNat) "bits" "ret"
  k_with "state" => first | exact ix (iw_start hf hu1) | exact wx (ww_enter hf hf' hu1 hu' (by omega) (by assumption) (by omega) (by assumption)) | exact wx (ww_turn hf' hu1 (by omega) (by assumption) (by omega)) | exact ix (iw_leave hu1 (by assumption) (by omega) (by assumption) (by assumption) (by omega)) | fail "state: none"
  k_steps
  · exact hnone (by rw [kEq]; exact cb_out (.inl (by assumption))) _ _ (by assumption) (cb_drop (by assumption) (by intro p hp; simp [hp]))
  · exact hnone (by rw [kEq]; exact cb_out (.inr (out_not (by omega) (by assumption)))) _ _ (by assumption) (cb_drop (by assumption) (by intro p hp; simp [hp]))
  · (rename (pad = true) => hp)
    subst hp
    (rename News _ _ _ _ => nE)
    simp only [List.push_toArray] at nE
    exact hsome _ (cb_pad hf (IW.inv (by assumption)) (by assumption)) _ _ _ _ _ (by assumption) nE (IntsAre.append (by assumption) (.cons _ _ .nil)) (allLt_of (by assumption))
  · (rename (pad = true) => hp)
    subst hp
    exact hsome _ (cb_pad0' (IW.inv (by assumption)) (by assumption)) _ _ _ _ _ (by assumption) (by assumption) (by assumption) (allLt_of (by assumption))
  · (rename (pad = false) => hp)
    subst hp
    exact hnone (cb_no1 (IW.inv (by assumption)) (by assumption)) _ _ (by assumption) (cb_drop (by assumption) (by intro p hp; simp [hp]))
  · (rename (pad = false) => hp)
    subst hp
    exact hnone (cb_no2 hf (IW.inv (by assumption)) (by assumption)) _ _ (by assumption) (cb_drop (by assumption) (by intro p hp; simp [hp]))
  · (rename (pad = false) => hp)
    subst hp
    exact hsome _ (cb_yes hf (IW.inv (by assumption)) (by omega) (by assumption)) _ _ _ _ _ (by assumption) (by assumption) (by assumption) (allLt_of (by assumption))
end Mine
end
section
example : True := by
  w_top off
  trivial
local macro_rules | `(tactic| walk_at "no such word") => `(tactic| fail "none")
local macro_rules | `(tactic| walk_at "no such word") => `(tactic| fail "none")
local macro_rules | `(tactic| walk_at "no such word") => `(tactic| fail "none")
local macro_rules | `(tactic| walk_at "no such word") => `(tactic| fail "none")
local macro_rules | `(tactic| walk_at "no such word") => `(tactic| fail "none")
local macro_rules | `(tactic| walk_at "no such word") => `(tactic| fail "none")
local macro_rules | `(tactic| walk_at "no such word") => `(tactic| fail "none")
local macro_rules | `(tactic| walk_at "no such word") => `(tactic| fail "none")
local macro_rules | `(tactic| walk_at "no such word") => `(tactic| fail "none")
local macro_rules | `(tactic| walk_at "no such word") => `(tactic| fail "none")
local macro_rules | `(tactic| walk_at "no such word") => `(tactic| fail "none")
local macro_rules | `(tactic| walk_at "no such word") => `(tactic| fail "none")
local macro_rules | `(tactic| walk_at "no such word") => `(tactic| fail "none")
local macro_rules | `(tactic| walk_at "no such word") => `(tactic| fail "none")
local macro_rules | `(tactic| walk_at "no such word") => `(tactic| fail "none")
local macro_rules | `(tactic| walk_at "no such word") => `(tactic| fail "none")
local macro_rules | `(tactic| walk_at "no such word") => `(tactic| fail "none")
local macro_rules | `(tactic| walk_at "no such word") => `(tactic| fail "none")
local macro_rules | `(tactic| walk_at "no such word") => `(tactic| fail "none")
local macro_rules | `(tactic| walk_at "no such word") => `(tactic| fail "none")
local macro_rules | `(tactic| walk_at "no such word") => `(tactic| fail "none")
local macro_rules | `(tactic| walk_at "no such word") => `(tactic| fail "none")
local macro_rules | `(tactic| walk_at "no such word") => `(tactic| fail "none")
local macro_rules | `(tactic| walk_at "no such word") => `(tactic| fail "none")
local macro_rules | `(tactic| walk_at "no such word") => `(tactic| fail "none")
local macro_rules | `(tactic| walk_at "no such word") => `(tactic| fail "none")
local macro_rules | `(tactic| walk_at "no such word") => `(tactic| fail "none")
local macro_rules | `(tactic| walk_at "no such word") => `(tactic| fail "none")
local macro_rules | `(tactic| walk_at "no such word") => `(tactic| fail "none")
local macro_rules | `(tactic| walk_at "no such word") => `(tactic| fail "none")
local macro_rules | `(tactic| walk_at "no such word") => `(tactic| fail "none")
local macro_rules | `(tactic| walk_at "no such word") => `(tactic| fail "none")
local macro_rules | `(tactic| walk_at "no such word") => `(tactic| fail "none")
local macro_rules | `(tactic| walk_at "no such word") => `(tactic| fail "none")
local macro_rules | `(tactic| walk_at "no such word") => `(tactic| fail "none")
local macro_rules | `(tactic| walk_at "no such word") => `(tactic| fail "none")
local macro_rules | `(tactic| walk_at "no such word") => `(tactic| fail "none")
local macro_rules | `(tactic| walk_at "no such word") => `(tactic| fail "none")
local macro_rules | `(tactic| walk_at "no such word") => `(tactic| fail "none")
local macro_rules | `(tactic| walk_at "no such word") => `(tactic| fail "none")
open PySem PySem.W PyProof.Rows
namespace Mine
example : PySem.Challenge.rw_vn0015_01 = PySem.Challenge.rw_vn0015_01 ∧ Mine.hd.heap_39 = Mine.hd.heap_39 := by
  k_fill
  exact ⟨rfl, rfl⟩

local macro_rules | `(tactic| k_memK) => `(tactic| assumption)
local macro_rules | `(tactic| kst_facts1) => `(tactic| first | exact IntsAre.nil | exact IntsAre.append (by with_reducible assumption) (.cons _ _ .nil) | with_reducible assumption | exact PyProof.Rows.StrsAre.nil | exact PyProof.Rows.StrsAre.append' (by with_reducible assumption) (.cons _ _ .nil))
local macro_rules | `(tactic| walk_at "call ref") => `(tactic| (k_here; (with_reducible show wpAny _ _ (call (Value.ref _) [Value.bytes _ _, Value.str _ _]) _ _ _); k_dflt (refine call_from (by k_asm) (by k_mem) (by assumption) (by omega) ?_); intro _ _))
local macro_rules | `(tactic| cell_enter) => `(tactic| (refine' code_def ?k1 ?k2 ?k3 ?k4 ?k5 ?kA ?kF ?kK ?k6 ?k7 ?k8 ?k9 ?kB ?_ ?c2 ?c3 ?c4 ?c5; (case kA => exact rfl); (case kF => exact rfl); (case kK => first | assumption | exact rfl); (case k1 => k_asm); (case k2 => k_asm); (case k3 => k_asm); (case k4 => k_asm); (case k5 => k_asm); (case k6 => k_is); (case k7 => k_is); (case k8 => ktr_room); (case k9 => first | exact BindsTo.of_eq rfl | exact binds_K (by k_in) rfl (by k_is) rfl rfl rfl); (case c5 => decide); (case kB => exact locs rfl); (case c2 => exact rfl); (case c3 => exact rfl); (case c4 => exact rfl); k_whole; intro g' L' h' FG' F' N' B' X' T'; (try dsimp only); (try k_lift B'); (try k_fold)))
local macro_rules | `(tactic| walk_at "call ref") => `(tactic| (k_here; (with_reducible show wpAny _ _ (call (Value.ref _) _) _ _ _); (refine wpAny_call ?_); k_dflt cell_enter))
local macro_rules | `(tactic| walk_at "getAttr int") => `(tactic| (k_here; (refine int_class ?_); intro _))
local macro_rules | `(tactic| walk_at "call builtin:hasattr") => `(tactic| (k_here; k_dflt (refine has_missF (by k_asm) (by k_asm) (by rfl) ?_); intro h' tk' F' N'; (try k_sweep)))

local macro_rules | `(tactic| mul_fits) => `(tactic| ((rename (∀ _ _, _ = _ ++ _ → IntMulOk _ _) => h9); (rename (_ = _ ++ _ :: _) => e9); (rename (_ = val _ _) => i9); rw [i9]; exact h9 _ _ e9))

set_option maxHeartbeats 4000000 in
theorem value_list {w : World} {dp un : Nat} {gd : Option (List Code)} {cn : Str} {cs : Scope} {a : Addr} {ccd : Value} {cl : List (Str × Addr)} {outer : List Env} {A₀ : Around} {base h₀ : Heap} {L : Addr} {m : Str → Option Value} {s : Shared} {Q E : Value → Shared → Prop}
    {p : Program} {loose : List Str} {mean : ExcName → Option Value} {mg mb : Str → Option Value} {news : List (Addr × Obj)} {d : Addr} {dv : List Value} {dn : Nat} {ns : List Int} {B : Int} {tb : Tok}
    (Bl : Below A₀ base outer h₀) (F : Fr h₀ L s.heap m) (X : (Mine.hd.heap_39 w.params).In h₀) (N : News h₀ L s.heap news) (T : Top p loose mean mg mb h₀) (hk : cs.kind = .function) (hd : dp + 20 < recursionLimit) (hu : un + 200 < cLine)
    (hm : (d, listOf dv.toArray dn) ∈ news) (hi : IntsAre dv ns) (hsz : ∀ pre post : List Int, ns = pre ++ post → IntMulOk (val B pre) B)
    (hret : ∀ (t : Tok) (h' : Heap) (tk' : Nat), Fr h₀ L h' m → News h₀ L h' news → Q (.int (val B ns) t) { s with heap := h', toks := tk' }) :
    wpAny (model PySem.Challenge.pw_vn0015_01 w) (ktrTop dp un gd cn cs L a ccd cl outer) (call (.ref 521) [.ref d, .int B tb]) Q E s := by
  refine wpAny_call ?_
  k_dflt cell_enter
  k_with "pyIter ref" => k_state (fun pre v => v = val B pre) "value"
  k_with "state" => first | exact (val_nil _).symm | (rw [val_snoc]; simp_all; done)
  k_steps
  (rename (_ = val _ _) => i9)
  rw [i9]
  exact hret _ _ _ (by assumption) (by assumption)

set_option maxHeartbeats 4000000 in
theorem value_bytes {w : World} {dp un : Nat} {gd : Option (List Code)} {cn : Str} {cs : Scope} {a : Addr} {ccd : Value} {cl : List (Str × Addr)} {outer : List Env} {A₀ : Around} {base h₀ : Heap} {L : Addr} {m : Str → Option Value} {s : Shared} {Q E : Value → Shared → Prop}
    {p : Program} {loose : List Str} {mean : ExcName → Option Value} {mg mb : Str → Option Value} {news : List (Addr × Obj)} {b : Array UInt8} {t0 : Tok} {ns : List Int} {B : Int} {tb : Tok}
    (Bl : Below A₀ base outer h₀) (F : Fr h₀ L s.heap m) (X : (Mine.hd.heap_39 w.params).In h₀) (N : News h₀ L s.heap news) (T : Top p loose mean mg mb h₀) (hk : cs.kind = .function) (hd : dp + 20 < recursionLimit) (hu : un + 200 < cLine)
    (hb : KBw.bInts b = ns) (hsz : ∀ pre post : List Int, ns = pre ++ post → IntMulOk (val B pre) B)
    (hret : ∀ (t : Tok) (h' : Heap) (tk' : Nat), Fr h₀ L h' m → News h₀ L h' news → Q (.int (val B ns) t) { s with heap := h', toks := tk' }) :
    wpAny (model PySem.Challenge.pw_vn0015_01 w) (ktrTop dp un gd cn cs L a ccd cl outer) (call (.ref 521) [.bytes b t0, .int B tb]) Q E s := by
  refine wpAny_call ?_
  k_dflt cell_enter
  k_with "pyIter bytes" => k_state (fun pre v => v = val B pre) "value"
  k_with "state" => first | exact (val_nil _).symm | (rw [val_snoc]; simp_all; done)
  k_steps
  (rename (_ = val _ _) => i9)
  rw [i9]
  exact hret _ _ _ (by assumption) (by assumption)
end Mine
end
section
example : True := by
  w_top off
  trivial
open PySem PySem.W PyProof.Rows
namespace Mine
example : PySem.Challenge.rw_vn0015_01 = PySem.Challenge.rw_vn0015_01 ∧ Mine.hd.heap_39 = Mine.hd.heap_39 := by
  k_fill
  exact ⟨rfl, rfl⟩

local macro_rules | `(tactic| k_memK) => `(tactic| assumption)
local macro_rules | `(tactic| kst_facts1) => `(tactic| first | exact IntsAre.nil | exact IntsAre.append (by with_reducible assumption) (.cons _ _ .nil) | with_reducible assumption | exact PyProof.Rows.StrsAre.nil | exact PyProof.Rows.StrsAre.append' (by with_reducible assumption) (.cons _ _ .nil))
local macro_rules | `(tactic| walk_at "call ref") => `(tactic| (k_here; (with_reducible show wpAny _ _ (call (Value.ref _) [Value.bytes _ _, Value.str _ _]) _ _ _); k_dflt (refine call_from (by k_asm) (by k_mem) (by assumption) (by omega) ?_); intro _ _))
local macro_rules | `(tactic| cell_enter) => `(tactic| (refine' code_def ?k1 ?k2 ?k3 ?k4 ?k5 ?kA ?kF ?kK ?k6 ?k7 ?k8 ?k9 ?kB ?_ ?c2 ?c3 ?c4 ?c5; (case kA => exact rfl); (case kF => exact rfl); (case kK => first | assumption | exact rfl); (case k1 => k_asm); (case k2 => k_asm); (case k3 => k_asm); (case k4 => k_asm); (case k5 => k_asm); (case k6 => k_is); (case k7 => k_is); (case k8 => ktr_room); (case k9 => first | exact BindsTo.of_eq rfl | exact binds_K (by k_in) rfl (by k_is) rfl rfl rfl); (case c5 => decide); (case kB => exact locs rfl); (case c2 => exact rfl); (case c3 => exact rfl); (case c4 => exact rfl); k_whole; intro g' L' h' FG' F' N' B' X' T'; (try dsimp only); (try k_lift B'); (try k_fold)))
local macro_rules | `(tactic| walk_at "call ref") => `(tactic| (k_here; (with_reducible show wpAny _ _ (call (Value.ref _) _) _ _ _); (refine wpAny_call ?_); k_dflt cell_enter))
local macro_rules | `(tactic| walk_at "getAttr int") => `(tactic| (k_here; (refine int_class ?_); intro _))
local macro_rules | `(tactic| walk_at "call builtin:hasattr") => `(tactic| (k_here; k_dflt (refine has_missF (by k_asm) (by k_asm) (by rfl) ?_); intro h' tk' F' N'; (try k_sweep)))

local macro_rules | `(tactic| walk_at "call builtin:str.join") => `(tactic| (k_here; k_dflt (refine join_rev (by k_asm) (by k_mem) (by assumption) (by assumption) (by assumption) ?_); intro kDs _ _ kD0 kD1 kD2 kD4))
local macro_rules | `(tactic| size_fits) => `(tactic| ((have h9 := PyProof.Rows.StrsAre.len_eq (by assumption)); simp only [List.size_toArray, PySem.sizeLine_eq]; omega))
local macro_rules | `(tactic| walk_at "binaryOp Mult str int") => `(tactic| (k_here; (refine mul58 (by omega) (by omega) ?_); intro _ _))
local macro_rules | `(tactic| walk_at "binaryOp Add str str") => `(tactic| (k_here; (refine add58 (by simp only [List.length_replicate, List.length_reverse]; omega) ?_); intro _ _))
local macro_rules | `(tactic| walk_at "call builtin:divmod") => `(tactic| (k_here; (with_reducible show wpAny _ _ (call (Value.builtin _) [Value.int _ _, Value.int _ _]) _ _ _); k_dflt (refine divmod_D (by assumption) (by assumption) (by decide) ?_ (by first | exact PyProof.noPylong_of_log2 (by decide +kernel) | exact PyProof.noPylong_small (by omega))); intro d' h' t1' t2' k' F' N' l1; (try k_lt l1)))
set_option maxHeartbeats 4000000 in
theorem enc_base58 {w : World} {dp un : Nat} {gd : Option (List Code)} {cn : Str} {cs : Scope} {a : Addr} {ccd : Value} {cl : List (Str × Addr)} {outer : List Env} {A₀ : Around} {base h₀ : Heap} {L : Addr} {m : Str → Option Value} {s : Shared} {Q E : Value → Shared → Prop}
    {p : Program} {loose : List Str} {mean : ExcName → Option Value} {mg mb : Str → Option Value} {news : List (Addr × Obj)} {b : Array UInt8} {ks : List Int} {t : Tok}
    (Bl : Below A₀ base outer h₀) (F : Fr h₀ L s.heap m) (X : (Mine.hd.heap_39 w.params).In h₀) (N : News h₀ L s.heap news) (T : Top p loose mean mg mb h₀) (hk : cs.kind = .function) (hd : dp + 20 < recursionLimit) (hu : un + 200 < cLine)
    (hb : KBw.bInts b = ks) (hl : ks.length ≤ 16) (hV0 : 0 ≤ val 256 ks) (hV : PySem.Flt.Hid (val 256 ks < 2 ^ 128))
    (hret : ∀ es : List Int, Figs 58 es → val 58 es = val 256 ks → (es.length = 0 ∨ 58 ^ (es.length - 1) ≤ val 256 ks) → ∀ t h' tk', Fr h₀ L h' m → News h₀ L h' news → Q (.str (text58 (List.replicate (lead ks) 0 ++ es)) t) { s with heap := h', toks := tk' }) :
    wpAny (model PySem.Challenge.pw_vn0015_01 w) (ktrTop dp un gd cn cs L a ccd cl outer) (call (.ref 56) [.bytes b t]) Q E s := by
  refine wpAny_call ?_
  k_dflt cell_enter
  k_with "exec While Compare cons nil" => k_while (fun script n chars => WEX (val 256 ks) n chars) (fun script n chars => n.toNat) "n" "chars$"
  k_with "state" => first | exact we_start hV0 | exact we_turnF hV (by assumption) (by assumption) | exact wp_start | exact wp_turn (by assumption) (by assumption) | fail "state: none"
  k_with "measure" => exact we_meas (by assumption)
  k_with "pyIter bytes" => k_state (fun pre pad => WPX pre pad) "pad"
  k_steps

  · (rename (WP _ _) => hw)
    (rename (_ = _ * 58 ^ _ + _) => hv)
    rw [enc_ends hw kEq (by assumption)]
    exact hret _ (figs_rev (by assumption)) (enc_val hv (by assumption) (by assumption)) (enc_len (by assumption)) _ _ _ (by assumption) (cb_drop (by assumption) (by intro p hp; simp [hp]))
  · (rename (WP _ _) => hw)
    (rename (_ = _ * 58 ^ _ + _) => hv)
    rw [enc_endA hw]
    exact hret _ (figs_rev (by assumption)) (enc_val hv (by assumption) (by assumption)) (enc_len (by assumption)) _ _ _ (by assumption) (cb_drop (by assumption) (by intro p hp; simp [hp]))
end Mine
end
section
example : True := by
  w_top off
  trivial
local macro_rules | `(tactic| walk_at "no such word") => `(tactic| fail "none")
local macro_rules | `(tactic| walk_at "no such word") => `(tactic| fail "none")
local macro_rules | `(tactic| walk_at "no such word") => `(tactic| fail "none")
local macro_rules | `(tactic| walk_at "no such word") => `(tactic| fail "none")
local macro_rules | `(tactic| walk_at "no such word") => `(tactic| fail "none")
local macro_rules | `(tactic| walk_at "no such word") => `(tactic| fail "none")
local macro_rules | `(tactic| walk_at "no such word") => `(tactic| fail "none")
local macro_rules | `(tactic| walk_at "no such word") => `(tactic| fail "none")
local macro_rules | `(tactic| walk_at "no such word") => `(tactic| fail "none")
local macro_rules | `(tactic| walk_at "no such word") => `(tactic| fail "none")
local macro_rules | `(tactic| walk_at "no such word") => `(tactic| fail "none")
local macro_rules | `(tactic| walk_at "no such word") => `(tactic| fail "none")
local macro_rules | `(tactic| walk_at "no such word") => `(tactic| fail "none")
local macro_rules | `(tactic| walk_at "no such word") => `(tactic| fail "none")
local macro_rules | `(tactic| walk_at "no such word") => `(tactic| fail "none")
local macro_rules | `(tactic| walk_at "no such word") => `(tactic| fail "none")
local macro_rules | `(tactic| walk_at "no such word") => `(tactic| fail "none")
local macro_rules | `(tactic| walk_at "no such word") => `(tactic| fail "none")
local macro_rules | `(tactic| walk_at "no such word") => `(tactic| fail "none")
local macro_rules | `(tactic| walk_at "no such word") => `(tactic| fail "none")
local macro_rules | `(tactic| walk_at "no such word") => `(tactic| fail "none")
local macro_rules | `(tactic| walk_at "no such word") => `(tactic| fail "none")
local macro_rules | `(tactic| walk_at "no such word") => `(tactic| fail "none")
local macro_rules | `(tactic| walk_at "no such word") => `(tactic| fail "none")
local macro_rules | `(tactic| walk_at "no such word") => `(tactic| fail "none")
local macro_rules | `(tactic| walk_at "no such word") => `(tactic| fail "none")
local macro_rules | `(tactic| walk_at "no such word") => `(tactic| fail "none")
local macro_rules | `(tactic| walk_at "no such word") => `(tactic| fail "none")
local macro_rules | `(tactic| walk_at "no such word") => `(tactic| fail "none")
local macro_rules | `(tactic| walk_at "no such word") => `(tactic| fail "none")
local macro_rules | `(tactic| walk_at "no such word") => `(tactic| fail "none")
local macro_rules | `(tactic| walk_at "no such word") => `(tactic| fail "none")
local macro_rules | `(tactic| walk_at "no such word") => `(tactic| fail "none")
local macro_rules | `(tactic| walk_at "no such word") => `(tactic| fail "none")
local macro_rules | `(tactic| walk_at "no such word") => `(tactic| fail "none")
local macro_rules | `(tactic| walk_at "no such word") => `(tactic| fail "none")
local macro_rules | `(tactic| walk_at "no such word") => `(tactic| fail "none")
local macro_rules | `(tactic| walk_at "no such word") => `(tactic| fail "none")
local macro_rules | `(tactic| walk_at "no such word") => `(tactic| fail "none")
local macro_rules | `(tactic| walk_at "no such word") => `(tactic| fail "none")
open PySem PySem.W PyProof.Rows
namespace Mine
example : PySem.Challenge.rw_vn0015_01 = PySem.Challenge.rw_vn0015_01 ∧ Mine.hd.heap_39 = Mine.hd.heap_39 := by
  k_fill
  exact ⟨rfl, rfl⟩

local macro_rules | `(tactic| k_memK) => `(tactic| assumption)
local macro_rules | `(tactic| kst_facts1) => `(tactic| first | exact IntsAre.nil | exact IntsAre.append (by with_reducible assumption) (.cons _ _ .nil) | with_reducible assumption | exact PyProof.Rows.StrsAre.nil | exact PyProof.Rows.StrsAre.append' (by with_reducible assumption) (.cons _ _ .nil))
local macro_rules | `(tactic| walk_at "call ref") => `(tactic| (k_here; (with_reducible show wpAny _ _ (call (Value.ref _) [Value.bytes _ _, Value.str _ _]) _ _ _); k_dflt (refine call_from (by k_asm) (by k_mem) (by assumption) (by omega) ?_); intro _ _))
local macro_rules | `(tactic| cell_enter) => `(tactic| (refine' code_def ?k1 ?k2 ?k3 ?k4 ?k5 ?kA ?kF ?kK ?k6 ?k7 ?k8 ?k9 ?kB ?_ ?c2 ?c3 ?c4 ?c5; (case kA => exact rfl); (case kF => exact rfl); (case kK => first | assumption | exact rfl); (case k1 => k_asm); (case k2 => k_asm); (case k3 => k_asm); (case k4 => k_asm); (case k5 => k_asm); (case k6 => k_is); (case k7 => k_is); (case k8 => ktr_room); (case k9 => first | exact BindsTo.of_eq rfl | exact binds_K (by k_in) rfl (by k_is) rfl rfl rfl); (case c5 => decide); (case kB => exact locs rfl); (case c2 => exact rfl); (case c3 => exact rfl); (case c4 => exact rfl); k_whole; intro g' L' h' FG' F' N' B' X' T'; (try dsimp only); (try k_lift B'); (try k_fold)))
local macro_rules | `(tactic| walk_at "call ref") => `(tactic| (k_here; (with_reducible show wpAny _ _ (call (Value.ref _) _) _ _ _); (refine wpAny_call ?_); k_dflt cell_enter))
local macro_rules | `(tactic| walk_at "getAttr int") => `(tactic| (k_here; (refine int_class ?_); intro _))
local macro_rules | `(tactic| walk_at "call builtin:hasattr") => `(tactic| (k_here; k_dflt (refine has_missF (by k_asm) (by k_asm) (by rfl) ?_); intro h' tk' F' N'; (try k_sweep)))

local macro_rules | `(tactic| walk_at "truthy str") => `(tactic| (k_here; (refine truthy58 (by omega) ?_); intro _))
local macro_rules | `(tactic| walk_at "compareOp NotIn str str") => `(tactic| (k_here; (refine notin58 (sign_of (by assumption) (by assumption)) ?_)))
local macro_rules | `(tactic| walk_at "call builtin:str.index") => `(tactic| (k_here; (refine index58 (by rfl) (sign_of (by assumption) (by assumption)) ?_)))
local macro_rules | `(tactic| mul_fits) => `(tactic| exact IntMulOk.of_right (by decide))
local macro_rules | `(tactic| walk_at "call builtin:int.to_bytes") => `(tactic| (k_here; (refine tb_open (by assumption) (hid_of (dn_end (by assumption) (by assumption)) (by assumption)) (by first | exact k_some rfl (by assumption) | exact k_none (by assumption)) ?_); intro _ _ _ kB1 kB2))
local macro_rules | `(tactic| walk_at "subscriptTail Name Slice str ref") => `(tactic| (k_here; (with_reducible rename Fr _ _ _ _ => F'); (with_reducible rename News _ _ _ _ => N'); (refine slice58_last (s := ⟨_, _, _, _, _⟩) (by omega) (by omega) F' N' ?_ (by with_unfolding_all rfl) (by intro _; with_unfolding_all rfl)); intro h' t' k' F' N'))
local macro_rules | `(tactic| walk_at "exec For Name Subscript") => `(tactic| (k_here; (rename Fr _ _ _ _ => lF'); (with_unfolding_all refine' For_invVF lF' ?k1 ?k2 ?_; (case k1 => exact rfl); (case k2 => exact rfl); k_whole)))
local macro_rules | `(tactic| walk_at "compareOp Eq str str") => `(tactic| (k_here; (refine eq58 (sign_of (figs_last (by assumption)) (by assumption)) ?_)))
local macro_rules | `(tactic| walk_at "binaryOp Mult bytes int") => `(tactic| (k_here; k_dflt (refine mulB (by assumption) (by first | exact pad_at (by assumption) (by assumption) (by assumption) | exact pad_all (by assumption) (by assumption)) ?_); intro _ _ _ kZ1))
local macro_rules | `(tactic| walk_at "binaryOp Add bytes bytes") => `(tactic| (k_here; (refine addB (by assumption) (by first | (have h9 := pad_at (by assumption) (by assumption) (by assumption); omega) | (have h9 := pad_all (by assumption) (by assumption); omega)) (by assumption) (min_le (by assumption) (by assumption)) ?_); intro _ _ _ kA1))
set_option maxHeartbeats 4000000 in
theorem dec_base58 {w : World} {dp un : Nat} {gd : Option (List Code)} {cn : Str} {cs : Scope} {a : Addr} {ccd : Value} {cl : List (Str × Addr)} {outer : List Env} {A₀ : Around} {base h₀ : Heap} {L : Addr} {m : Str → Option Value} {s : Shared} {Q E : Value → Shared → Prop}
    {p : Program} {loose : List Str} {mean : ExcName → Option Value} {mg mb : Str → Option Value} {news : List (Addr × Obj)} {ds : List Int} {t : Tok}
    (Bl : Below A₀ base outer h₀) (F : Fr h₀ L s.heap m) (X : (Mine.hd.heap_39 w.params).In h₀) (N : News h₀ L s.heap news) (T : Top p loose mean mg mb h₀) (hk : cs.kind = .function) (hd : dp + 20 < recursionLimit) (hu : un + 200 < cLine)
    (hds : Figs 58 ds) (hl : ds.length ≤ 100) (hV : PySem.Flt.Hid (val 58 ds < 2 ^ 64))
    (hret : ∀ (b : Array UInt8) t h' tk', KBw.bInts b = decB ds → Fr h₀ L h' m → News h₀ L h' news → Q (.bytes b t) { s with heap := h', toks := tk' }) :
    wpAny (model PySem.Challenge.pw_vn0015_01 w) (ktrTop dp un gd cn cs L a ccd cl outer) (call (.ref 63) [.str (text58 ds) t]) Q E s := by
  refine wpAny_call ?_
  k_dflt cell_enter
  k_with "pyIter str" => k_state (fun pre n => DNX pre n) "n"
  k_with "pyIter str" => k_state (fun pre pad => WSX pre pad) "pad"
  k_with "state" => first | exact ws_start | exact ws_turn (by assumption) (by assumption) | exact dn_start | exact dn_turn (by assumption) (sign_of (by assumption) (by assumption)) | fail "state: none"
  k_steps

  · exact hret _ _ _ _ (dec_at hds (by assumption) (by assumption) (by assumption) (by assumption) (by assumption) (by assumption)) (by assumption) (cb_drop (by assumption) (by intro p hp; simp [hp]))
  · exact hret _ _ _ _ (dec_all hds (by assumption) (by assumption) (by assumption) (by assumption)) (by assumption) (cb_drop (by assumption) (by intro p hp; simp [hp]))
  · exact hret _ _ _ _ (dec_at hds (by assumption) (by assumption) (by assumption) (by assumption) (by assumption) (by assumption)) (by assumption) (cb_drop (by assumption) (by intro p hp; simp [hp]))
  · exact hret _ _ _ _ (dec_all hds (by assumption) (by assumption) (by assumption) (by assumption)) (by assumption) (cb_drop (by assumption) (by intro p hp; simp [hp]))
  · exact hret _ _ _ _ (dec_none (by assumption)) (by assumption) (by assumption)
end Mine
end
section
example : True := by
  w_top off
  trivial
open PySem PySem.W PyProof.Rows
namespace Mine
example : PySem.Challenge.rw_vn0015_01 = PySem.Challenge.rw_vn0015_01 ∧ Mine.hd.heap_39 = Mine.hd.heap_39 := by
  k_fill
  exact ⟨rfl, rfl⟩

local macro_rules | `(tactic| k_memK) => `(tactic| assumption)
local macro_rules | `(tactic| kst_facts1) => `(tactic| first | exact IntsAre.nil | exact IntsAre.append (by with_reducible assumption) (.cons _ _ .nil) | with_reducible assumption | exact PyProof.Rows.StrsAre.nil | exact PyProof.Rows.StrsAre.append' (by with_reducible assumption) (.cons _ _ .nil))
local macro_rules | `(tactic| walk_at "call ref") => `(tactic| (k_here; (with_reducible show wpAny _ _ (call (Value.ref _) [Value.bytes _ _, Value.str _ _]) _ _ _); k_dflt (refine call_from (by k_asm) (by k_mem) (by assumption) (by omega) ?_); intro _ _))
local macro_rules | `(tactic| cell_enter) => `(tactic| (refine' code_def ?k1 ?k2 ?k3 ?k4 ?k5 ?kA ?kF ?kK ?k6 ?k7 ?k8 ?k9 ?kB ?_ ?c2 ?c3 ?c4 ?c5; (case kA => exact rfl); (case kF => exact rfl); (case kK => first | assumption | exact rfl); (case k1 => k_asm); (case k2 => k_asm); (case k3 => k_asm); (case k4 => k_asm); (case k5 => k_asm); (case k6 => k_is); (case k7 => k_is); (case k8 => ktr_room); (case k9 => first | exact BindsTo.of_eq rfl | exact binds_K (by k_in) rfl (by k_is) rfl rfl rfl); (case c5 => decide); (case kB => exact locs rfl); (case c2 => exact rfl); (case c3 => exact rfl); (case c4 => exact rfl); k_whole; intro g' L' h' FG' F' N' B' X' T'; (try dsimp only); (try k_lift B'); (try k_fold)))
local macro_rules | `(tactic| walk_at "call ref") => `(tactic| (k_here; (with_reducible show wpAny _ _ (call (Value.ref _) _) _ _ _); (refine wpAny_call ?_); k_dflt cell_enter))
local macro_rules | `(tactic| walk_at "getAttr int") => `(tactic| (k_here; (refine int_class ?_); intro _))
local macro_rules | `(tactic| walk_at "call builtin:hasattr") => `(tactic| (k_here; k_dflt (refine has_missF (by k_asm) (by k_asm) (by rfl) ?_); intro h' tk' F' N'; (try k_sweep)))
local macro_rules | `(tactic| walk_at "call builtin:int.to_bytes") => `(tactic| (k_here; (refine tb_open (by assumption) (by assumption) (by first | exact k_some rfl (by assumption) | exact k_none (by assumption)) ?_); intro _ _ _ kB1 kB2))

set_option maxHeartbeats 4000000 in
theorem b2i {w : World} {dp un : Nat} {gd : Option (List Code)} {cn : Str} {cs : Scope} {a : Addr} {ccd : Value} {cl : List (Str × Addr)} {outer : List Env} {A₀ : Around} {base h₀ : Heap} {L : Addr} {m : Str → Option Value} {s : Shared} {Q E : Value → Shared → Prop}
    {p : Program} {loose : List Str} {mean : ExcName → Option Value} {mg mb : Str → Option Value} {news : List (Addr × Obj)} {b : Array UInt8} {ks : List Int} {t : Tok}
    (Bl : Below A₀ base outer h₀) (F : Fr h₀ L s.heap m) (X : (Mine.hd.heap_39 w.params).In h₀) (N : News h₀ L s.heap news) (T : Top p loose mean mg mb h₀) (hk : cs.kind = .function) (hd : dp + 20 < recursionLimit) (hu : un + 200 < cLine)
    (hb : KBw.bInts b = ks) (hl : ks.length ≤ 16)
    (hret : ∀ t h' tk', Fr h₀ L h' m → News h₀ L h' news → Q (.int (val 256 ks) t) { s with heap := h', toks := tk' }) :
    wpAny (model PySem.Challenge.pw_vn0015_01 w) (ktrTop dp un gd cn cs L a ccd cl outer) (call (.ref 249) [.bytes b t]) Q E s := by
  refine wpAny_call ?_
  k_dflt cell_enter
  k_steps
  exact hret _ _ _ (by assumption) (cb_drop (by assumption) (by intro p hp; simp [hp]))
set_option maxHeartbeats 4000000 in
theorem i2b {w : World} {dp un : Nat} {gd : Option (List Code)} {cn : Str} {cs : Scope} {a : Addr} {ccd : Value} {cl : List (Str × Addr)} {outer : List Env} {A₀ : Around} {base h₀ : Heap} {L : Addr} {m : Str → Option Value} {s : Shared} {Q E : Value → Shared → Prop}
    {p : Program} {loose : List Str} {mean : ExcName → Option Value} {mg mb : Str → Option Value} {news : List (Addr × Obj)} {x : Int} {t : Tok}
    (Bl : Below A₀ base outer h₀) (F : Fr h₀ L s.heap m) (X : (Mine.hd.heap_39 w.params).In h₀) (N : News h₀ L s.heap news) (T : Top p loose mean mg mb h₀) (hk : cs.kind = .function) (hd : dp + 20 < recursionLimit) (hu : un + 200 < cLine)
    (h0 : 0 ≤ x) (h1 : PySem.Flt.Hid (x < 2 ^ 64))
    (hret : ∀ (b : Array UInt8) t h' tk', KBw.bInts b = minBytes x → b.size ≤ 8 → Fr h₀ L h' m → News h₀ L h' news → Q (.bytes b t) { s with heap := h', toks := tk' }) :
    wpAny (model PySem.Challenge.pw_vn0015_01 w) (ktrTop dp un gd cn cs L a ccd cl outer) (call (.ref 256) [.int x t]) Q E s := by
  refine wpAny_call ?_
  k_dflt cell_enter
  k_steps
  · exact hret _ _ _ _ (by assumption) (by assumption) (by assumption) (cb_drop (by assumption) (by intro p hp; simp [hp]))
  · exact hret _ _ _ _ (by assumption) (by assumption) (by assumption) (cb_drop (by assumption) (by intro p hp; simp [hp]))
end Mine
end
section
example : True := by
  w_top off
  trivial
local macro_rules | `(tactic| walk_at "no such word") => `(tactic| fail "none")
local macro_rules | `(tactic| walk_at "no such word") => `(tactic| fail "none")
local macro_rules | `(tactic| walk_at "no such word") => `(tactic| fail "none")
local macro_rules | `(tactic| walk_at "no such word") => `(tactic| fail "none")
local macro_rules | `(tactic| walk_at "no such word") => `(tactic| fail "none")
local macro_rules | `(tactic| walk_at "no such word") => `(tactic| fail "none")
local macro_rules | `(tactic| walk_at "no such word") => `(tactic| fail "none")
local macro_rules | `(tactic| walk_at "no such word") => `(tactic| fail "none")
local macro_rules | `(tactic| walk_at "no such word") => `(tactic| fail "none")
local macro_rules | `(tactic| walk_at "no such word") => `(tactic| fail "none")
local macro_rules | `(tactic| walk_at "no such word") => `(tactic| fail "none")
local macro_rules | `(tactic| walk_at "no such word") => `(tactic| fail "none")
local macro_rules | `(tactic| walk_at "no such word") => `(tactic| fail "none")
local macro_rules | `(tactic| walk_at "no such word") => `(tactic| fail "none")
local macro_rules | `(tactic| walk_at "no such word") => `(tactic| fail "none")
local macro_rules | `(tactic| walk_at "no such word") => `(tactic| fail "none")
local macro_rules | `(tactic| walk_at "no such word") => `(tactic| fail "none")
local macro_rules | `(tactic| walk_at "no such word") => `(tactic| fail "none")
local macro_rules | `(tactic| walk_at "no such word") => `(tactic| fail "none")
local macro_rules | `(tactic| walk_at "no such word") => `(tactic| fail "none")
local macro_rules | `(tactic| walk_at "no such word") => `(tactic| fail "none")
local macro_rules | `(tactic| walk_at "no such word") => `(tactic| fail "none")
local macro_rules | `(tactic| walk_at "no such word") => `(tactic| fail "none")
local macro_rules | `(tactic| walk_at "no such word") => `(tactic| fail "none")
local macro_rules | `(tactic| walk_at "no such word") => `(tactic| fail "none")
local macro_rules | `(tactic| walk_at "no such word") => `(tactic| fail "none")
local macro_rules | `(tactic| walk_at "no such word") => `(tactic| fail "none")
local macro_rules | `(tactic| walk_at "no such word") => `(tactic| fail "none")
local macro_rules | `(tactic| walk_at "no such word") => `(tactic| fail "none")
local macro_rules | `(tactic| walk_at "no such word") => `(tactic| fail "none")
local macro_rules | `(tactic| walk_at "no such word") => `(tactic| fail "none")
local macro_rules | `(tactic| walk_at "no such word") => `(tactic| fail "none")
local macro_rules | `(tactic| walk_at "no such word") => `(tactic| fail "none")
local macro_rules | `(tactic| walk_at "no such word") => `(tactic| fail "none")
local macro_rules | `(tactic| walk_at "no such word") => `(tactic| fail "none")
local macro_rules | `(tactic| walk_at "no such word") => `(tactic| fail "none")
local macro_rules | `(tactic| walk_at "no such word") => `(tactic| fail "none")
local macro_rules | `(tactic| walk_at "no such word") => `(tactic| fail "none")
local macro_rules | `(tactic| walk_at "no such word") => `(tactic| fail "none")
local macro_rules | `(tactic| walk_at "no such word") => `(tactic| fail "none")
open PySem PySem.W PyProof.Rows
namespace Mine
example : PySem.Challenge.rw_vn0015_01 = PySem.Challenge.rw_vn0015_01 ∧ Mine.hd.heap_39 = Mine.hd.heap_39 := by
  k_fill
  exact ⟨rfl, rfl⟩

local macro_rules | `(tactic| k_memK) => `(tactic| assumption)
local macro_rules | `(tactic| kst_facts1) => `(tactic| first | exact IntsAre.nil | exact IntsAre.append (by with_reducible assumption) (.cons _ _ .nil) | with_reducible assumption | exact PyProof.Rows.StrsAre.nil | exact PyProof.Rows.StrsAre.append' (by with_reducible assumption) (.cons _ _ .nil))
local macro_rules | `(tactic| walk_at "call ref") => `(tactic| (k_here; (with_reducible show wpAny _ _ (call (Value.ref _) [Value.bytes _ _, Value.str _ _]) _ _ _); k_dflt (refine call_from (by k_asm) (by k_mem) (by assumption) (by omega) ?_); intro _ _))
local macro_rules | `(tactic| cell_enter) => `(tactic| (refine' code_def ?k1 ?k2 ?k3 ?k4 ?k5 ?kA ?kF ?kK ?k6 ?k7 ?k8 ?k9 ?kB ?_ ?c2 ?c3 ?c4 ?c5; (case kA => exact rfl); (case kF => exact rfl); (case kK => first | assumption | exact rfl); (case k1 => k_asm); (case k2 => k_asm); (case k3 => k_asm); (case k4 => k_asm); (case k5 => k_asm); (case k6 => k_is); (case k7 => k_is); (case k8 => ktr_room); (case k9 => first | exact BindsTo.of_eq rfl | exact binds_K (by k_in) rfl (by k_is) rfl rfl rfl); (case c5 => decide); (case kB => exact locs rfl); (case c2 => exact rfl); (case c3 => exact rfl); (case c4 => exact rfl); k_whole; intro g' L' h' FG' F' N' B' X' T'; (try dsimp only); (try k_lift B'); (try k_fold)))
local macro_rules | `(tactic| walk_at "call ref") => `(tactic| (k_here; (with_reducible show wpAny _ _ (call (Value.ref _) _) _ _ _); (refine wpAny_call ?_); k_dflt cell_enter))
local macro_rules | `(tactic| walk_at "getAttr int") => `(tactic| (k_here; (refine int_class ?_); intro _))
local macro_rules | `(tactic| walk_at "call builtin:hasattr") => `(tactic| (k_here; k_dflt (refine has_missF (by k_asm) (by k_asm) (by rfl) ?_); intro h' tk' F' N'; (try k_sweep)))
local macro_rules | `(tactic| walk_at "call ref") => `(tactic| (k_here; (with_reducible show wpAny _ _ (call (Value.ref 256) [Value.int _ _]) _ _ _); k_dflt (refine' i2b ?k1 ?k2 ?k3 ?k4 ?k5 ?kK ?kd ?ku ?kp0 ?kp1 ?_; (case k1 => k_asm); (case k2 => k_asm); (case k3 => k_asm); (case k4 => k_asm); (case k5 => k_asm); (case kK => first | exact rfl | assumption); (case kd => ktr_room); (case ku => ktr_units); (case kp0 => assumption); (case kp1 => assumption)); intro _ _ _ _ kB1 kB2 kF9 kN9; (try k_fold)))

set_option maxHeartbeats 4000000 in
theorem ser {w : World} {dp un : Nat} {gd : Option (List Code)} {cn : Str} {cs : Scope} {a : Addr} {ccd : Value} {cl : List (Str × Addr)} {outer : List Env} {A₀ : Around} {base h₀ : Heap} {L : Addr} {m : Str → Option Value} {s : Shared} {Q E : Value → Shared → Prop}
    {p : Program} {loose : List Str} {mean : ExcName → Option Value} {mg mb : Str → Option Value} {news : List (Addr × Obj)} {x : Int} {t : Tok}
    (Bl : Below A₀ base outer h₀) (F : Fr h₀ L s.heap m) (X : (Mine.hd.heap_39 w.params).In h₀) (N : News h₀ L s.heap news) (T : Top p loose mean mg mb h₀) (hk : cs.kind = .function) (hd : dp + 40 < recursionLimit) (hu : un + 400 < cLine)
    (h0 : 0 ≤ x) (h1 : PySem.Flt.Hid (x < 2 ^ 64))
    (hret : ∀ (b : Array UInt8) t h' tk', KBw.bInts b = serB x → b.size ≤ 8 → Fr h₀ L h' m → News h₀ L h' news → Q (.bytes b t) { s with heap := h', toks := tk' }) :
    wpAny (model PySem.Challenge.pw_vn0015_01 w) (ktrTop dp un gd cn cs L a ccd cl outer) (call (.ref 278) [.ref 294, .int x t]) Q E s := by
  refine wpAny_call ?_
  k_dflt cell_enter
  k_steps
  · exact hret _ _ _ _ (ser_0 (by assumption)) size_0 (by assumption) (by assumption)
  · exact hret _ _ _ _ (ser_1 (by assumption) (by assumption)) (by assumption) (by assumption) (by assumption)
end Mine
end
section
example : True := by
  w_top off
  trivial
open PySem PySem.W PyProof.Rows
namespace Mine
example : PySem.Challenge.rw_vn0015_01 = PySem.Challenge.rw_vn0015_01 ∧ Mine.hd.heap_39 = Mine.hd.heap_39 := by
  k_fill
  exact ⟨rfl, rfl⟩

local macro_rules | `(tactic| k_memK) => `(tactic| assumption)
local macro_rules | `(tactic| kst_facts1) => `(tactic| first | exact IntsAre.nil | exact IntsAre.append (by with_reducible assumption) (.cons _ _ .nil) | with_reducible assumption | exact PyProof.Rows.StrsAre.nil | exact PyProof.Rows.StrsAre.append' (by with_reducible assumption) (.cons _ _ .nil))
local macro_rules | `(tactic| walk_at "call ref") => `(tactic| (k_here; (with_reducible show wpAny _ _ (call (Value.ref _) [Value.bytes _ _, Value.str _ _]) _ _ _); k_dflt (refine call_from (by k_asm) (by k_mem) (by assumption) (by omega) ?_); intro _ _))
local macro_rules | `(tactic| cell_enter) => `(tactic| (refine' code_def ?k1 ?k2 ?k3 ?k4 ?k5 ?kA ?kF ?kK ?k6 ?k7 ?k8 ?k9 ?kB ?_ ?c2 ?c3 ?c4 ?c5; (case kA => exact rfl); (case kF => exact rfl); (case kK => first | assumption | exact rfl); (case k1 => k_asm); (case k2 => k_asm); (case k3 => k_asm); (case k4 => k_asm); (case k5 => k_asm); (case k6 => k_is); (case k7 => k_is); (case k8 => ktr_room); (case k9 => first | exact BindsTo.of_eq rfl | exact binds_K (by k_in) rfl (by k_is) rfl rfl rfl); (case c5 => decide); (case kB => exact locs rfl); (case c2 => exact rfl); (case c3 => exact rfl); (case c4 => exact rfl); k_whole; intro g' L' h' FG' F' N' B' X' T'; (try dsimp only); (try k_lift B'); (try k_fold)))
local macro_rules | `(tactic| walk_at "call ref") => `(tactic| (k_here; (with_reducible show wpAny _ _ (call (Value.ref _) _) _ _ _); (refine wpAny_call ?_); k_dflt cell_enter))
local macro_rules | `(tactic| walk_at "getAttr int") => `(tactic| (k_here; (refine int_class ?_); intro _))
local macro_rules | `(tactic| walk_at "call builtin:hasattr") => `(tactic| (k_here; k_dflt (refine has_missF (by k_asm) (by k_asm) (by rfl) ?_); intro h' tk' F' N'; (try k_sweep)))
local macro_rules | `(tactic| walk_at "call ref") => `(tactic| (k_here; (with_reducible show wpAny _ _ (call (Value.ref 278) [Value.ref 294, Value.int _ _]) _ _ _); k_dflt (refine' ser ?k1 ?k2 ?k3 ?k4 ?k5 ?kK ?kd ?ku ?kp0 ?kp1 ?_; (case k1 => k_asm); (case k2 => k_asm); (case k3 => k_asm); (case k4 => k_asm); (case k5 => k_asm); (case kK => first | exact rfl | assumption); (case kd => ktr_room); (case ku => ktr_units); (case kp0 => assumption); (case kp1 => assumption)); intro _ _ _ _ kS1 kS2 kF9 kN9; (try k_fold)))

local macro_rules | `(tactic| walk_at "subscriptTail") => `(tactic| (k_here; (with_reducible show wpAny _ _ (subscriptTail _ _ (Value.ref 233) (Value.int _ _)) _ _ _); k_dflt (refine' allB ?F ?X ?l ?len ?all ?k ?_ ?hs; (case F => k_asm); (case X => k_asm); (case l => k_is); (case len => rfl); (case all => (intro i; match i with | ⟨0, _⟩ => exact ⟨_, rfl⟩ | ⟨1, _⟩ => exact ⟨_, rfl⟩ | ⟨2, _⟩ => exact ⟨_, rfl⟩ | ⟨3, _⟩ => exact ⟨_, rfl⟩ | ⟨4, _⟩ => exact ⟨_, rfl⟩ | ⟨5, _⟩ => exact ⟨_, rfl⟩ | ⟨6, _⟩ => exact ⟨_, rfl⟩ | ⟨7, _⟩ => exact ⟨_, rfl⟩ | ⟨8, _⟩ => exact ⟨_, rfl⟩)); (case k => assumption); (case hs => with_unfolding_all rfl)); intro kAb _ kAb1))
local macro_rules | `(tactic| walk_at "subscriptTail") => `(tactic| (k_here; (with_reducible show wpAny _ _ (subscriptTail _ _ (Value.bytes _ _) (Value.int _ _)) _ _ _); (rename KBw.bInts _ = serB _ => e9); (refine KBw.item_K e9 (by rw [← e9, KBw.ints_length]; omega) (by decide) (by rw [← e9, KBw.ints_length]; omega) ?_); intro _ _ _ _))
local macro_rules | `(tactic| walk_at "binaryOp Add bytes bytes") => `(tactic| (k_here; (rename KBw.bInts _ = serB _ => e9); (refine KBa.add_K (by assumption) e9 (by rw [← e9, KBw.ints_length, List.length_singleton]; omega) ?_); intro _ _ kA1))
set_option maxHeartbeats 4000000 in
theorem encC {w : World} {dp un : Nat} {gd : Option (List Code)} {cn : Str} {cs : Scope} {a : Addr} {ccd : Value} {cl : List (Str × Addr)} {outer : List Env} {A₀ : Around} {base h₀ : Heap} {L : Addr} {m : Str → Option Value} {s : Shared} {Q E : Value → Shared → Prop}
    {p : Program} {loose : List Str} {mean : ExcName → Option Value} {mg mb : Str → Option Value} {news : List (Addr × Obj)} {x : Int} {t : Tok}
    (Bl : Below A₀ base outer h₀) (F : Fr h₀ L s.heap m) (X : (Mine.hd.heap_39 w.params).In h₀) (N : News h₀ L s.heap news) (T : Top p loose mean mg mb h₀) (hk : cs.kind = .function) (hd : dp + 80 < recursionLimit) (hu : un + 800 < cLine)
    (h0 : 0 ≤ x) (h1 : PySem.Flt.Hid (x < 2 ^ 64))
    (hret : ∀ (b : Array UInt8) t h' tk', KBw.bInts b = encB x → b.size ≤ 9 → Fr h₀ L h' m → News h₀ L h' news → Q (.bytes b t) { s with heap := h', toks := tk' }) :
    wpAny (model PySem.Challenge.pw_vn0015_01 w) (ktrTop dp un gd cn cs L a ccd cl outer) (call (.ref 466) [.int x t]) Q E s := by
  refine wpAny_call ?_
  k_dflt cell_enter
  k_steps
  · rename KBw.bInts _ = serB _ => e
    have e2 := enc_small e (by assumption) (by assumption)
    exact hret _ _ _ _ e2 (enc_size e (by assumption) e2) (by assumption) (by assumption)
  · rename KBw.bInts _ = serB _ => e
    rename KBw.bInts _ = _ ++ serB _ => e1
    have e2 := enc_long e (.inr (by assumption)) e1
    exact hret _ _ _ _ e2 (enc_size e (by assumption) e2) (by assumption) (by assumption)
  · rename KBw.bInts _ = serB _ => e
    rename KBw.bInts _ = _ ++ serB _ => e1
    have e2 := enc_long e (.inl (by assumption)) e1
    exact hret _ _ _ _ e2 (enc_size e (by assumption) e2) (by assumption) (by assumption)
end Mine
end
section
example : True := by
  w_top off
  trivial
local macro_rules | `(tactic| walk_at "no such word") => `(tactic| fail "none")
local macro_rules | `(tactic| walk_at "no such word") => `(tactic| fail "none")
local macro_rules | `(tactic| walk_at "no such word") => `(tactic| fail "none")
local macro_rules | `(tactic| walk_at "no such word") => `(tactic| fail "none")
local macro_rules | `(tactic| walk_at "no such word") => `(tactic| fail "none")
local macro_rules | `(tactic| walk_at "no such word") => `(tactic| fail "none")
local macro_rules | `(tactic| walk_at "no such word") => `(tactic| fail "none")
local macro_rules | `(tactic| walk_at "no such word") => `(tactic| fail "none")
local macro_rules | `(tactic| walk_at "no such word") => `(tactic| fail "none")
local macro_rules | `(tactic| walk_at "no such word") => `(tactic| fail "none")
local macro_rules | `(tactic| walk_at "no such word") => `(tactic| fail "none")
local macro_rules | `(tactic| walk_at "no such word") => `(tactic| fail "none")
local macro_rules | `(tactic| walk_at "no such word") => `(tactic| fail "none")
local macro_rules | `(tactic| walk_at "no such word") => `(tactic| fail "none")
local macro_rules | `(tactic| walk_at "no such word") => `(tactic| fail "none")
local macro_rules | `(tactic| walk_at "no such word") => `(tactic| fail "none")
local macro_rules | `(tactic| walk_at "no such word") => `(tactic| fail "none")
local macro_rules | `(tactic| walk_at "no such word") => `(tactic| fail "none")
local macro_rules | `(tactic| walk_at "no such word") => `(tactic| fail "none")
local macro_rules | `(tactic| walk_at "no such word") => `(tactic| fail "none")
local macro_rules | `(tactic| walk_at "no such word") => `(tactic| fail "none")
local macro_rules | `(tactic| walk_at "no such word") => `(tactic| fail "none")
local macro_rules | `(tactic| walk_at "no such word") => `(tactic| fail "none")
local macro_rules | `(tactic| walk_at "no such word") => `(tactic| fail "none")
local macro_rules | `(tactic| walk_at "no such word") => `(tactic| fail "none")
local macro_rules | `(tactic| walk_at "no such word") => `(tactic| fail "none")
local macro_rules | `(tactic| walk_at "no such word") => `(tactic| fail "none")
local macro_rules | `(tactic| walk_at "no such word") => `(tactic| fail "none")
local macro_rules | `(tactic| walk_at "no such word") => `(tactic| fail "none")
local macro_rules | `(tactic| walk_at "no such word") => `(tactic| fail "none")
local macro_rules | `(tactic| walk_at "no such word") => `(tactic| fail "none")
local macro_rules | `(tactic| walk_at "no such word") => `(tactic| fail "none")
local macro_rules | `(tactic| walk_at "no such word") => `(tactic| fail "none")
local macro_rules | `(tactic| walk_at "no such word") => `(tactic| fail "none")
local macro_rules | `(tactic| walk_at "no such word") => `(tactic| fail "none")
local macro_rules | `(tactic| walk_at "no such word") => `(tactic| fail "none")
local macro_rules | `(tactic| walk_at "no such word") => `(tactic| fail "none")
local macro_rules | `(tactic| walk_at "no such word") => `(tactic| fail "none")
local macro_rules | `(tactic| walk_at "no such word") => `(tactic| fail "none")
local macro_rules | `(tactic| walk_at "no such word") => `(tactic| fail "none")
open PySem PySem.W PyProof.Rows
namespace Mine
example : PySem.Challenge.rw_vn0015_01 = PySem.Challenge.rw_vn0015_01 ∧ Mine.hd.heap_39 = Mine.hd.heap_39 := by
  k_fill
  exact ⟨rfl, rfl⟩

local macro_rules | `(tactic| k_memK) => `(tactic| assumption)
local macro_rules | `(tactic| kst_facts1) => `(tactic| first | exact IntsAre.nil | exact IntsAre.append (by with_reducible assumption) (.cons _ _ .nil) | with_reducible assumption | exact PyProof.Rows.StrsAre.nil | exact PyProof.Rows.StrsAre.append' (by with_reducible assumption) (.cons _ _ .nil))
local macro_rules | `(tactic| walk_at "call ref") => `(tactic| (k_here; (with_reducible show wpAny _ _ (call (Value.ref _) [Value.bytes _ _, Value.str _ _]) _ _ _); k_dflt (refine call_from (by k_asm) (by k_mem) (by assumption) (by omega) ?_); intro _ _))
local macro_rules | `(tactic| cell_enter) => `(tactic| (refine' code_def ?k1 ?k2 ?k3 ?k4 ?k5 ?kA ?kF ?kK ?k6 ?k7 ?k8 ?k9 ?kB ?_ ?c2 ?c3 ?c4 ?c5; (case kA => exact rfl); (case kF => exact rfl); (case kK => first | assumption | exact rfl); (case k1 => k_asm); (case k2 => k_asm); (case k3 => k_asm); (case k4 => k_asm); (case k5 => k_asm); (case k6 => k_is); (case k7 => k_is); (case k8 => ktr_room); (case k9 => first | exact BindsTo.of_eq rfl | exact binds_K (by k_in) rfl (by k_is) rfl rfl rfl); (case c5 => decide); (case kB => exact locs rfl); (case c2 => exact rfl); (case c3 => exact rfl); (case c4 => exact rfl); k_whole; intro g' L' h' FG' F' N' B' X' T'; (try dsimp only); (try k_lift B'); (try k_fold)))
local macro_rules | `(tactic| walk_at "call ref") => `(tactic| (k_here; (with_reducible show wpAny _ _ (call (Value.ref _) _) _ _ _); (refine wpAny_call ?_); k_dflt cell_enter))
local macro_rules | `(tactic| walk_at "getAttr int") => `(tactic| (k_here; (refine int_class ?_); intro _))
local macro_rules | `(tactic| walk_at "call builtin:hasattr") => `(tactic| (k_here; k_dflt (refine has_missF (by k_asm) (by k_asm) (by rfl) ?_); intro h' tk' F' N'; (try k_sweep)))
local macro_rules | `(tactic| walk_at "call ref") => `(tactic| (k_here; (with_reducible show wpAny _ _ (call (Value.ref 249) [Value.bytes _ _]) _ _ _); k_dflt (refine' b2i ?k1 ?k2 ?k3 ?k4 ?k5 ?kK ?kd ?ku ?kp0 ?kp1 ?_; (case k1 => k_asm); (case k2 => k_asm); (case k3 => k_asm); (case k4 => k_asm); (case k5 => k_asm); (case kK => first | exact rfl | assumption); (case kd => ktr_room); (case ku => ktr_units); (case kp0 => first | assumption | exact (rfl : KBw.bInts (List.toArray [0]) = [0])); (case kp1 => first | (simp only [List.length_cons, List.length_nil]; omega) | omega)); intro _ _ _ kF9 kN9; (try k_fold)))

local macro_rules | `(tactic| walk_at "subscriptTail") => `(tactic| (k_here; (with_reducible show wpAny _ _ (subscriptTail _ _ (Value.bytes _ _) (Value.int _ _)) _ _ _); (first | (refine item_first (by with_reducible assumption) (by omega) ?_) | (refine item_second (by omega) (by with_reducible assumption) (by omega) (by omega) ?_)); intro _ _))
local macro_rules | `(tactic| walk_at "subscriptTail") => `(tactic| (k_here; (with_reducible show wpAny _ _ (subscriptTail _ (Expr.Slice _ _ none _) (Value.bytes _ _) (Value.ref _)) _ _ _); (with_reducible rename Fr _ _ _ _ => F'); (with_reducible rename News _ _ _ _ => N'); (first | refine cut_K (s := ⟨_, _, _, _, _⟩) F' N' (by with_reducible assumption) (by simp only [List.length_cons, List.length_nil]; omega) (cut_first (by omega) (by omega)) ?_ | refine cut_K (s := ⟨_, _, _, _, _⟩) F' N' (by with_reducible assumption) (by simp only [List.length_cons, List.length_nil]; omega) (cut_rest (by omega) (by omega)) ?_ | refine cut_K (s := ⟨_, _, _, _, _⟩) F' N' (by with_reducible assumption) (by omega) (cut_one (by omega) (by omega)) ?_); intro _ _ _ _ kcF kcN kcI; (clear F' N')))
local macro_rules | `(tactic| walk_at "compareOp Eq bytes bytes") => `(tactic| (k_here; first | refine eq_one (by with_reducible assumption) (by assumption) rfl ?_ | refine eq_tak (by with_reducible assumption) (by assumption) rfl ?_))
local macro_rules | `(tactic| walk_at "eval Call Attribute") => `(tactic| (k_here; (with_reducible show wpAny _ _ (eval (PySem.Expr.Call (PySem.Expr.Attribute _ _ _) [_] [PySem.Keyword.mk none _ _] _) _) _ _ _); refine call_kw ?_))
local macro_rules | `(tactic| walk_at "eval Call") => `(tactic| (k_here; (with_reducible show wpAny _ _ (eval (PySem.Expr.Call (PySem.Expr.Attribute _ _ _) [_] [PySem.Keyword.mk none _ _] _) _) _ _ _); refine call_kw ?_))
local macro_rules | `(tactic| walk_at "callWith ref") => `(tactic| (k_here; (with_reducible show wpAny _ _ (callWith _ (Value.ref _) _ _ (backToKw _ (keywordEach [PySem.Keyword.mk none _ _] _))) _ _ _); k_dflt (refine' callWith_kwN ?X ?F ?N ?q ?d ?f ?i ?s ?v ?u ?_; (case X => k_asm); (case F => k_asm); (case N => k_asm); (case q => k_mem); (case u => exact rfl); (case i => assumption); (case d => k_mem); (case f => k_is); (case s => assumption); (case v => exact rfl); k_whole); intro h' tk' F' N'; (try k_sweep)))
local macro_rules | `(tactic| walk_at "call ref") => `(tactic| (k_here; (with_reducible show wpAny _ _ (call (Value.ref _) _) _ _ _); k_dflt (refine' call_meth ?k1 ?k2 ?_; (case k1 => k_asm); (case k2 => k_mem); k_whole); k_dflt cell_enter))
local macro_rules | `(tactic| walk_at "truthy bytes") => `(tactic| (k_here; (with_reducible show wpAny _ _ (truthy (Value.bytes _ _)) _ _ _); (refine KBw.truthy_K (ks := [_]) (by with_reducible assumption) (by simp only [List.length_cons, List.length_nil]; omega) ?_); (rw [decide_eq_true (by simp only [List.length_cons, List.length_nil]; omega)])))

set_option maxHeartbeats 4000000 in
theorem rdecA {w : World} {dp un : Nat} {gd : Option (List Code)} {cn : Str} {cs : Scope} {a : Addr} {ccd : Value} {cl : List (Str × Addr)} {outer : List Env} {A₀ : Around} {base h₀ : Heap} {L : Addr} {m : Str → Option Value} {s : Shared} {Q E : Value → Shared → Prop}
    {p : Program} {loose : List Str} {mean : ExcName → Option Value} {mg mb : Str → Option Value} {news : List (Addr × Obj)} {b : Array UInt8} {ks : List Int} {n : Nat} {k : Int} {t : Tok}
    (Bl : Below A₀ base outer h₀) (F : Fr h₀ L s.heap m) (X : (Mine.hd.heap_39 w.params).In h₀) (N : News h₀ L s.heap news) (T : Top p loose mean mg mb h₀) (hk : cs.kind = .function) (hd : dp + 80 < recursionLimit) (hu : un + 800 < cLine)
    (hb : KBw.bInts b = k :: ks) (hn : ks.length = 0) (hk8 : k < 128) (hk1 : 0 < k)
    (hret : ∀ t h' tk', Fr h₀ L h' m → News h₀ L h' news → Q (.int (val 256 [k]) t) { s with heap := h', toks := tk' }) :
    wpAny (model PySem.Challenge.pw_vn0015_01 w) (ktrTop dp un gd cn cs L a ccd cl outer) (call (.ref 502) [.bytes b t, .ref 294]) Q E s := by
  refine wpAny_call ?_
  k_dflt (refine' kp_more ?k1 ?k2 ?k3 ?k4 ?k5 ?kA ?kF ?kK ?k6 ?k7 ?k8 ?kX ?kM ?kN ?kD ?kR ?kP ?kT ?kB ?_ ?c2 ?c3 ?c4 ?c5; (case kA => exact rfl); (case kF => exact rfl); (case kK => first | assumption | exact rfl); (case k1 => k_asm); (case k2 => k_asm); (case k3 => k_asm); (case k4 => k_asm); (case k5 => k_asm); (case k6 => k_is); (case k7 => k_is); (case k8 => ktr_room); (case kX => kp_lit); (case kM => exact rfl); (case kN => exact rfl); (case kD => kp_flats); (case kR => exact rfl); (case kP => exact rfl); (case kT => exact fun _ => rfl); (case kB => exact fun _ => locs rfl); (case c5 => decide); (case c2 => exact rfl); (case c3 => exact rfl); (case c4 => exact rfl); k_whole; intro D' o' g' L' h' tk' l1 lo' hs' fs' FG' F' N' B' X' T'; (try k_lt l1); (try dsimp only); (try k_lift B'); (try k_fold))
  k_steps
  all_goals exact hret _ _ _ (by assumption) (cb_drop (by assumption) (by intro p hp; simp [hp]))
end Mine
end
section
example : True := by
  w_top off
  trivial
open PySem PySem.W PyProof.Rows
namespace Mine
example : PySem.Challenge.rw_vn0015_01 = PySem.Challenge.rw_vn0015_01 ∧ Mine.hd.heap_39 = Mine.hd.heap_39 := by
  k_fill
  exact ⟨rfl, rfl⟩

local macro_rules | `(tactic| k_memK) => `(tactic| assumption)
local macro_rules | `(tactic| kst_facts1) => `(tactic| first | exact IntsAre.nil | exact IntsAre.append (by with_reducible assumption) (.cons _ _ .nil) | with_reducible assumption | exact PyProof.Rows.StrsAre.nil | exact PyProof.Rows.StrsAre.append' (by with_reducible assumption) (.cons _ _ .nil))
local macro_rules | `(tactic| walk_at "call ref") => `(tactic| (k_here; (with_reducible show wpAny _ _ (call (Value.ref _) [Value.bytes _ _, Value.str _ _]) _ _ _); k_dflt (refine call_from (by k_asm) (by k_mem) (by assumption) (by omega) ?_); intro _ _))
local macro_rules | `(tactic| cell_enter) => `(tactic| (refine' code_def ?k1 ?k2 ?k3 ?k4 ?k5 ?kA ?kF ?kK ?k6 ?k7 ?k8 ?k9 ?kB ?_ ?c2 ?c3 ?c4 ?c5; (case kA => exact rfl); (case kF => exact rfl); (case kK => first | assumption | exact rfl); (case k1 => k_asm); (case k2 => k_asm); (case k3 => k_asm); (case k4 => k_asm); (case k5 => k_asm); (case k6 => k_is); (case k7 => k_is); (case k8 => ktr_room); (case k9 => first | exact BindsTo.of_eq rfl | exact binds_K (by k_in) rfl (by k_is) rfl rfl rfl); (case c5 => decide); (case kB => exact locs rfl); (case c2 => exact rfl); (case c3 => exact rfl); (case c4 => exact rfl); k_whole; intro g' L' h' FG' F' N' B' X' T'; (try dsimp only); (try k_lift B'); (try k_fold)))
local macro_rules | `(tactic| walk_at "call ref") => `(tactic| (k_here; (with_reducible show wpAny _ _ (call (Value.ref _) _) _ _ _); (refine wpAny_call ?_); k_dflt cell_enter))
local macro_rules | `(tactic| walk_at "getAttr int") => `(tactic| (k_here; (refine int_class ?_); intro _))
local macro_rules | `(tactic| walk_at "call builtin:hasattr") => `(tactic| (k_here; k_dflt (refine has_missF (by k_asm) (by k_asm) (by rfl) ?_); intro h' tk' F' N'; (try k_sweep)))
local macro_rules | `(tactic| walk_at "call ref") => `(tactic| (k_here; (with_reducible show wpAny _ _ (call (Value.ref 249) [Value.bytes _ _]) _ _ _); k_dflt (refine' b2i ?k1 ?k2 ?k3 ?k4 ?k5 ?kK ?kd ?ku ?kp0 ?kp1 ?_; (case k1 => k_asm); (case k2 => k_asm); (case k3 => k_asm); (case k4 => k_asm); (case k5 => k_asm); (case kK => first | exact rfl | assumption); (case kd => ktr_room); (case ku => ktr_units); (case kp0 => first | assumption | exact (rfl : KBw.bInts (List.toArray [0]) = [0])); (case kp1 => first | (simp only [List.length_cons, List.length_nil]; omega) | omega)); intro _ _ _ kF9 kN9; (try k_fold)))

local macro_rules | `(tactic| walk_at "subscriptTail") => `(tactic| (k_here; (with_reducible show wpAny _ _ (subscriptTail _ _ (Value.bytes _ _) (Value.int _ _)) _ _ _); (first | (refine item_first (by with_reducible assumption) (by omega) ?_) | (refine item_second (by omega) (by with_reducible assumption) (by omega) (by omega) ?_)); intro _ _))
local macro_rules | `(tactic| walk_at "subscriptTail") => `(tactic| (k_here; (with_reducible show wpAny _ _ (subscriptTail _ (Expr.Slice _ _ none _) (Value.bytes _ _) (Value.ref _)) _ _ _); (with_reducible rename Fr _ _ _ _ => F'); (with_reducible rename News _ _ _ _ => N'); (first | refine cut_K (s := ⟨_, _, _, _, _⟩) F' N' (by with_reducible assumption) (by simp only [List.length_cons, List.length_nil]; omega) (cut_first (by omega) (by omega)) ?_ | refine cut_K (s := ⟨_, _, _, _, _⟩) F' N' (by with_reducible assumption) (by simp only [List.length_cons, List.length_nil]; omega) (cut_rest (by omega) (by omega)) ?_ | refine cut_K (s := ⟨_, _, _, _, _⟩) F' N' (by with_reducible assumption) (by omega) (cut_one (by omega) (by omega)) ?_); intro _ _ _ _ kcF kcN kcI; (clear F' N')))
local macro_rules | `(tactic| walk_at "compareOp Eq bytes bytes") => `(tactic| (k_here; first | refine eq_one (by with_reducible assumption) (by assumption) rfl ?_ | refine eq_tak (by with_reducible assumption) (by assumption) rfl ?_))
local macro_rules | `(tactic| walk_at "eval Call Attribute") => `(tactic| (k_here; (with_reducible show wpAny _ _ (eval (PySem.Expr.Call (PySem.Expr.Attribute _ _ _) [_] [PySem.Keyword.mk none _ _] _) _) _ _ _); refine call_kw ?_))
local macro_rules | `(tactic| walk_at "eval Call") => `(tactic| (k_here; (with_reducible show wpAny _ _ (eval (PySem.Expr.Call (PySem.Expr.Attribute _ _ _) [_] [PySem.Keyword.mk none _ _] _) _) _ _ _); refine call_kw ?_))
local macro_rules | `(tactic| walk_at "callWith ref") => `(tactic| (k_here; (with_reducible show wpAny _ _ (callWith _ (Value.ref _) _ _ (backToKw _ (keywordEach [PySem.Keyword.mk none _ _] _))) _ _ _); k_dflt (refine' callWith_kwN ?X ?F ?N ?q ?d ?f ?i ?s ?v ?u ?_; (case X => k_asm); (case F => k_asm); (case N => k_asm); (case q => k_mem); (case u => exact rfl); (case i => assumption); (case d => k_mem); (case f => k_is); (case s => assumption); (case v => exact rfl); k_whole); intro h' tk' F' N'; (try k_sweep)))
local macro_rules | `(tactic| walk_at "call ref") => `(tactic| (k_here; (with_reducible show wpAny _ _ (call (Value.ref _) _) _ _ _); k_dflt (refine' call_meth ?k1 ?k2 ?_; (case k1 => k_asm); (case k2 => k_mem); k_whole); k_dflt cell_enter))
local macro_rules | `(tactic| walk_at "truthy bytes") => `(tactic| (k_here; (with_reducible show wpAny _ _ (truthy (Value.bytes _ _)) _ _ _); (refine KBw.truthy_K (ks := [_]) (by with_reducible assumption) (by simp only [List.length_cons, List.length_nil]; omega) ?_); (rw [decide_eq_true (by simp only [List.length_cons, List.length_nil]; omega)])))

set_option maxHeartbeats 4000000 in
theorem rdecB {w : World} {dp un : Nat} {gd : Option (List Code)} {cn : Str} {cs : Scope} {a : Addr} {ccd : Value} {cl : List (Str × Addr)} {outer : List Env} {A₀ : Around} {base h₀ : Heap} {L : Addr} {m : Str → Option Value} {s : Shared} {Q E : Value → Shared → Prop}
    {p : Program} {loose : List Str} {mean : ExcName → Option Value} {mg mb : Str → Option Value} {news : List (Addr × Obj)} {b : Array UInt8} {ks : List Int} {n : Nat} {k : Int} {t : Tok}
    (Bl : Below A₀ base outer h₀) (F : Fr h₀ L s.heap m) (X : (Mine.hd.heap_39 w.params).In h₀) (N : News h₀ L s.heap news) (T : Top p loose mean mg mb h₀) (hk : cs.kind = .function) (hd : dp + 80 < recursionLimit) (hu : un + 800 < cLine)
    (hb : KBw.bInts b = (128 + (n : Int)) :: ks) (hn : ks.length = n) (hn8 : n ≤ 8) (hk1 : n ≠ 1 ∨ ¬ ks.getD 0 0 < 128) (hk0 : ks.getD 0 1 ≠ 0)
    (hret : ∀ t h' tk', Fr h₀ L h' m → News h₀ L h' news → Q (.int (val 256 ks) t) { s with heap := h', toks := tk' }) :
    wpAny (model PySem.Challenge.pw_vn0015_01 w) (ktrTop dp un gd cn cs L a ccd cl outer) (call (.ref 502) [.bytes b t, .ref 294]) Q E s := by
  refine wpAny_call ?_
  k_dflt (refine' kp_more ?k1 ?k2 ?k3 ?k4 ?k5 ?kA ?kF ?kK ?k6 ?k7 ?k8 ?kX ?kM ?kN ?kD ?kR ?kP ?kT ?kB ?_ ?c2 ?c3 ?c4 ?c5; (case kA => exact rfl); (case kF => exact rfl); (case kK => first | assumption | exact rfl); (case k1 => k_asm); (case k2 => k_asm); (case k3 => k_asm); (case k4 => k_asm); (case k5 => k_asm); (case k6 => k_is); (case k7 => k_is); (case k8 => ktr_room); (case kX => kp_lit); (case kM => exact rfl); (case kN => exact rfl); (case kD => kp_flats); (case kR => exact rfl); (case kP => exact rfl); (case kT => exact fun _ => rfl); (case kB => exact fun _ => locs rfl); (case c5 => decide); (case c2 => exact rfl); (case c3 => exact rfl); (case c4 => exact rfl); k_whole; intro D' o' g' L' h' tk' l1 lo' hs' fs' FG' F' N' B' X' T'; (try k_lt l1); (try dsimp only); (try k_lift B'); (try k_fold))
  k_steps
  · exact hret _ _ _ (by assumption) (cb_drop (by assumption) (by intro p hp; simp [hp]))
  · exact hret _ _ _ (by assumption) (cb_drop (by assumption) (by intro p hp; simp [hp]))
  · have e : ks = [] := List.eq_nil_of_length_eq_zero (by omega)
    subst e
    exact hret _ _ _ (by assumption) (cb_drop (by assumption) (by intro p hp; simp [hp]))
end Mine
end
section
example : True := by
  w_top off
  trivial
local macro_rules | `(tactic| walk_at "no such word") => `(tactic| fail "none")
local macro_rules | `(tactic| walk_at "no such word") => `(tactic| fail "none")
local macro_rules | `(tactic| walk_at "no such word") => `(tactic| fail "none")
local macro_rules | `(tactic| walk_at "no such word") => `(tactic| fail "none")
local macro_rules | `(tactic| walk_at "no such word") => `(tactic| fail "none")
local macro_rules | `(tactic| walk_at "no such word") => `(tactic| fail "none")
local macro_rules | `(tactic| walk_at "no such word") => `(tactic| fail "none")
local macro_rules | `(tactic| walk_at "no such word") => `(tactic| fail "none")
local macro_rules | `(tactic| walk_at "no such word") => `(tactic| fail "none")
local macro_rules | `(tactic| walk_at "no such word") => `(tactic| fail "none")
local macro_rules | `(tactic| walk_at "no such word") => `(tactic| fail "none")
local macro_rules | `(tactic| walk_at "no such word") => `(tactic| fail "none")
local macro_rules | `(tactic| walk_at "no such word") => `(tactic| fail "none")
local macro_rules | `(tactic| walk_at "no such word") => `(tactic| fail "none")
local macro_rules | `(tactic| walk_at "no such word") => `(tactic| fail "none")
local macro_rules | `(tactic| walk_at "no such word") => `(tactic| fail "none")
local macro_rules | `(tactic| walk_at "no such word") => `(tactic| fail "none")
local macro_rules | `(tactic| walk_at "no such word") => `(tactic| fail "none")
local macro_rules | `(tactic| walk_at "no such word") => `(tactic| fail "none")
local macro_rules | `(tactic| walk_at "no such word") => `(tactic| fail "none")
local macro_rules | `(tactic| walk_at "no such word") => `(tactic| fail "none")
local macro_rules | `(tactic| walk_at "no such word") => `(tactic| fail "none")
local macro_rules | `(tactic| walk_at "no such word") => `(tactic| fail "none")
local macro_rules | `(tactic| walk_at "no such word") => `(tactic| fail "none")
local macro_rules | `(tactic| walk_at "no such word") => `(tactic| fail "none")
local macro_rules | `(tactic| walk_at "no such word") => `(tactic| fail "none")
local macro_rules | `(tactic| walk_at "no such word") => `(tactic| fail "none")
local macro_rules | `(tactic| walk_at "no such word") => `(tactic| fail "none")
local macro_rules | `(tactic| walk_at "no such word") => `(tactic| fail "none")
local macro_rules | `(tactic| walk_at "no such word") => `(tactic| fail "none")
local macro_rules | `(tactic| walk_at "no such word") => `(tactic| fail "none")
local macro_rules | `(tactic| walk_at "no such word") => `(tactic| fail "none")
local macro_rules | `(tactic| walk_at "no such word") => `(tactic| fail "none")
local macro_rules | `(tactic| walk_at "no such word") => `(tactic| fail "none")
local macro_rules | `(tactic| walk_at "no such word") => `(tactic| fail "none")
local macro_rules | `(tactic| walk_at "no such word") => `(tactic| fail "none")
local macro_rules | `(tactic| walk_at "no such word") => `(tactic| fail "none")
local macro_rules | `(tactic| walk_at "no such word") => `(tactic| fail "none")
local macro_rules | `(tactic| walk_at "no such word") => `(tactic| fail "none")
local macro_rules | `(tactic| walk_at "no such word") => `(tactic| fail "none")
open PySem PySem.W PyProof.Rows
namespace Mine
example : PySem.Challenge.rw_vn0015_01 = PySem.Challenge.rw_vn0015_01 ∧ Mine.hd.heap_39 = Mine.hd.heap_39 := by
  k_fill
  exact ⟨rfl, rfl⟩

local macro_rules | `(tactic| k_memK) => `(tactic| assumption)
local macro_rules | `(tactic| kst_facts1) => `(tactic| first | exact IntsAre.nil | exact IntsAre.append (by with_reducible assumption) (.cons _ _ .nil) | with_reducible assumption | exact PyProof.Rows.StrsAre.nil | exact PyProof.Rows.StrsAre.append' (by with_reducible assumption) (.cons _ _ .nil))
local macro_rules | `(tactic| walk_at "call ref") => `(tactic| (k_here; (with_reducible show wpAny _ _ (call (Value.ref _) [Value.bytes _ _, Value.str _ _]) _ _ _); k_dflt (refine call_from (by k_asm) (by k_mem) (by assumption) (by omega) ?_); intro _ _))
local macro_rules | `(tactic| cell_enter) => `(tactic| (refine' code_def ?k1 ?k2 ?k3 ?k4 ?k5 ?kA ?kF ?kK ?k6 ?k7 ?k8 ?k9 ?kB ?_ ?c2 ?c3 ?c4 ?c5; (case kA => exact rfl); (case kF => exact rfl); (case kK => first | assumption | exact rfl); (case k1 => k_asm); (case k2 => k_asm); (case k3 => k_asm); (case k4 => k_asm); (case k5 => k_asm); (case k6 => k_is); (case k7 => k_is); (case k8 => ktr_room); (case k9 => first | exact BindsTo.of_eq rfl | exact binds_K (by k_in) rfl (by k_is) rfl rfl rfl); (case c5 => decide); (case kB => exact locs rfl); (case c2 => exact rfl); (case c3 => exact rfl); (case c4 => exact rfl); k_whole; intro g' L' h' FG' F' N' B' X' T'; (try dsimp only); (try k_lift B'); (try k_fold)))
local macro_rules | `(tactic| walk_at "call ref") => `(tactic| (k_here; (with_reducible show wpAny _ _ (call (Value.ref _) _) _ _ _); (refine wpAny_call ?_); k_dflt cell_enter))
local macro_rules | `(tactic| walk_at "getAttr int") => `(tactic| (k_here; (refine int_class ?_); intro _))
local macro_rules | `(tactic| walk_at "call builtin:hasattr") => `(tactic| (k_here; k_dflt (refine has_missF (by k_asm) (by k_asm) (by rfl) ?_); intro h' tk' F' N'; (try k_sweep)))

theorem decC {w : World} {dp un : Nat} {gd : Option (List Code)} {cn : Str} {cs : Scope} {a : Addr} {ccd : Value} {cl : List (Str × Addr)} {outer : List Env} {A₀ : Around} {base h₀ : Heap} {L : Addr} {m : Str → Option Value} {s : Shared} {Q E : Value → Shared → Prop}
    {p : Program} {loose : List Str} {mean : ExcName → Option Value} {mg mb : Str → Option Value} {news : List (Addr × Obj)} {b : Array UInt8} {x : Int} {t : Tok}
    (Bl : Below A₀ base outer h₀) (F : Fr h₀ L s.heap m) (X : (Mine.hd.heap_39 w.params).In h₀) (N : News h₀ L s.heap news) (T : Top p loose mean mg mb h₀) (hk : cs.kind = .function) (hd : dp + 80 < recursionLimit) (hu : un + 800 < cLine)
    (hb : KBw.bInts b = encB x) (h0 : 0 ≤ x) (h1 : PySem.Flt.Hid (x < 2 ^ 64))
    (hret : ∀ t h' tk', Fr h₀ L h' m → News h₀ L h' news → Q (.int x t) { s with heap := h', toks := tk' }) :
    wpAny (model PySem.Challenge.pw_vn0015_01 w) (ktrTop dp un gd cn cs L a ccd cl outer) (call (.ref 502) [.bytes b t, .ref 294]) Q E s := by
  rcases encB_cases h0 h1.1 with ⟨k, e1, e2, e3, e4⟩ | ⟨e1, e2, e3, e4, e5⟩
  · rw [← e4] at hret
    exact rdecA (ks := []) (n := 0) Bl F X N T hk hd hu (hb.trans e1) rfl e2 e3 hret
  · rw [← e5] at hret
    exact rdecB (k := 0) Bl F X N T hk hd hu (hb.trans e1) rfl e2 e3 e4 hret
end Mine
end
section
example : True := by
  w_top off
  trivial
open PySem PySem.W PyProof.Rows PySem.Calls
namespace Mine
section
variable {prog : Program} {w : World} {A : Around} {E : Value → Shared → Prop} {s : Shared}
theorem mod_pos {a b : Int} {t u : Tok} {Q : Value → Shared → Prop} (hb : 0 < b)
    (h : 0 ≤ a.fmod b → a.fmod b < b → Q (.int (a.fmod b) s.toks) { s with toks := s.toks + 1 }) : wpAny (model prog w) A (binaryOp .Mod (.int a t) (.int b u)) Q E s :=
  mod_int (by omega) (h (Int.fmod_nonneg_of_pos _ hb) (Int.fmod_lt_of_pos _ hb))
theorem fdiv_small {a b : Int} {t u : Tok} {Q : Value → Shared → Prop} (hb : 0 < b) (hb' : b < 1073741824)
    (h : (0 ≤ a → 0 ≤ a.fdiv b ∧ a.fdiv b * b ≤ a ∧ a < (a.fdiv b + 1) * b) → Q (.int (a.fdiv b) s.toks) { s with toks := s.toks + 1 }) : wpAny (model prog w) A (binaryOp .FloorDiv (.int a t) (.int b u)) Q E s := by
  refine floordiv_int (by omega) (h ?_) (.inl (PyProof.noPylong_small (by omega)))
  intro h0
  have e := Int.mul_fdiv_add_fmod a b
  have h1 := Int.fmod_nonneg_of_pos a hb
  have h2 := Int.fmod_lt_of_pos a hb
  have h3 := Int.fdiv_nonneg h0 (Int.le_of_lt hb)
  refine ⟨h3, ?_, ?_⟩
  · rw [Int.mul_comm]; omega
  · rw [Int.add_mul, Int.one_mul, Int.mul_comm]; omega
theorem pow_le {a : Int} (ha : 1 ≤ a) {x : Nat} : ∀ {y : Nat}, x ≤ y → a ^ x ≤ a ^ y := by
  intro y hxy
  induction hxy with
  | refl => exact Int.le_refl _
  | @step m _ ih =>
    rw [Int.pow_succ]
    have h1 : 0 < a ^ m := Int.pow_pos (by omega)
    have h2 : a ^ m * 1 ≤ a ^ m * a := Int.mul_le_mul_of_nonneg_left ha (by omega)
    omega
theorem pow_f {a n : Int} {t u : Tok} {Q : Value → Shared → Prop} (N : Nat) (ha : 1 ≤ a) (ha' : a ≤ 256) (h0 : 0 ≤ n) (hN : n ≤ N) (hN' : N ≤ 9) (hb : a ^ N < 1073741824)
    (h : 0 < a ^ n.toNat → a ^ n.toNat < 1073741824 → Q (.int (a ^ n.toNat) s.toks) { s with toks := s.toks + 1 }) : wpAny (model prog w) A (binaryOp .Pow (.int a t) (.int n u)) Q E s :=
  pow_int_small h0 (by omega) (by omega) (h (Int.pow_pos (by omega)) (Int.lt_of_le_of_lt (pow_le ha (show n.toNat ≤ N by omega)) hb))
theorem pow2_f {n : Int} {t u : Tok} {Q : Value → Shared → Prop} (h0 : 1 ≤ n) (hN : n ≤ 9)
    (h : 2 ≤ (2:Int) ^ n.toNat → (2:Int) ^ n.toNat ≤ 512 → Q (.int ((2:Int) ^ n.toNat) s.toks) { s with toks := s.toks + 1 }) : wpAny (model prog w) A (binaryOp .Pow (.int 2 t) (.int n u)) Q E s :=
  pow_int_small (by omega) (by omega) (by decide) (h (pow_le (x := 1) (by decide) (by omega)) (pow_le (y := 9) (by decide) (by omega)))
theorem item_at {b : Array UInt8} {ks : List Int} {t ui : Tok} {i : Int} {Q : Value → Shared → Prop} {value slice : PySem.Expr} (hk : KBw.bInts b = ks) (h0 : 0 ≤ i) (h1 : i < ks.length) (hl : ks.length ≤ 100)
    (h : ∀ t' tk, Q (.int (ks.getD i.toNat 0) t') { s with toks := tk })
    (hs : subscripted slice false (.bytes b t) (.int i ui) = operate [.bytes b t, .int i ui] (getItem (.bytes b t) (.int i ui)) := by with_unfolding_all rfl)
    (ht : ∀ r, letTemporaryGo value (.bytes b t) r = pure () := by intro _; with_unfolding_all rfl) : wpAny (model prog w) A (subscriptTail value slice (.bytes b t) (.int i ui)) Q E s :=
  KBw.item_K hk (by omega) h0 h1 (fun t' tk _ _ => h t' tk) hs ht
end
/-- noughts ahead, as the while counts them -/
def AH (ks : List Int) (a : Int) : Prop := 0 ≤ a ∧ a ≤ ks.length ∧ ∀ k ∈ ks.take a.toNat, k = 0
abbrev AHX (ks : List Int) (a : Int) : Prop := AH ks a ∧ 0 ≤ a ∧ a ≤ ks.length
theorem AH.x {ks : List Int} {a : Int} (h : AH ks a) : AHX ks a := ⟨h, h.1, h.2.1⟩
theorem ah_start {ks : List Int} : AHX ks 0 := AH.x ⟨by omega, by omega, by simp⟩
theorem ah_turn {ks : List Int} {a : Int} (h : AH ks a) (hlt : a < ks.length) (h0 : ks.getD a.toNat 0 = 0) : AHX ks (a + 1) := by
  obtain ⟨h1, h2, h3⟩ := h
  refine AH.x ⟨by omega, by omega, ?_⟩
  have e : (a + 1).toNat = a.toNat + 1 := by omega
  have hl : a.toNat < ks.length := by omega
  rw [e, List.take_succ_eq_append_getElem hl]
  intro k hk
  rcases List.mem_append.mp hk with q | q
  · exact h3 k q
  · rw [List.mem_singleton.mp q]
    rw [List.getD_eq_getElem?_getD, List.getElem?_eq_getElem hl] at h0
    exact h0
theorem ah_all {ks : List Int} {a : Int} (h : AH ks a) (hlt : ¬ a < ks.length) : a = (lead ks : Int) := by
  obtain ⟨h1, h2, h3⟩ := h
  have e : a.toNat = ks.length := by omega
  rw [e, List.take_length] at h3
  rw [lead_all h3]; omega
theorem ah_at {ks : List Int} {a : Int} (h : AH ks a) (hlt : a < ks.length) (h0 : ks.getD a.toNat 0 ≠ 0) : a = (lead ks : Int) := by
  obtain ⟨h1, h2, h3⟩ := h
  have hl : a.toNat < ks.length := by omega
  rw [List.getD_eq_getElem?_getD, List.getElem?_eq_getElem hl] at h0
  have e : ks = ks.take a.toNat ++ ks[a.toNat] :: ks.drop (a.toNat + 1) := by
    rw [← List.drop_eq_getElem_cons hl, List.take_append_drop]
  have h0' : ks[a.toNat] ≠ 0 := h0
  rw [e, lead_at h0' h3, List.length_take]; omega
theorem ah_end {ks : List Int} {a : Int} (h : AH ks a) (hq : ¬ a < ks.length ∨ ks.getD a.toNat 0 ≠ 0) : a = (lead ks : Int) := by
  by_cases hlt : a < ks.length
  · exact ah_at h hlt (hq.resolve_left fun h => h hlt)
  · exact ah_all h hlt
open PySem.Builtin.Int (intBits) in
theorem bits_of {x : Int} {n : Nat} (h0 : 0 ≤ x) (h : x < 2 ^ n) : intBits x ≤ n := by
  refine intBits_le_iff.mpr ?_
  have : ((x.natAbs : Nat) : Int) < ((2 ^ n : Nat) : Int) := by
    rw [kbt_cast]; omega
  exact Int.ofNat_lt.mp this
theorem pow_base {a b : Int} (ha : 0 ≤ a) (h : a ≤ b) : ∀ n : Nat, a ^ n ≤ b ^ n
  | 0 => by simp
  | n + 1 => by
    rw [Int.pow_succ, Int.pow_succ]
    exact Int.mul_le_mul (pow_base ha h n) h ha (Int.pow_nonneg (Int.le_trans ha h))
theorem mulok {B : Int} (h1 : 1 ≤ B) (hB : B ≤ 512) {ns : List Int} (hf : Figs B ns) (hl : ns.length ≤ 100) : ∀ pre post : List Int, ns = pre ++ post → IntMulOk (val B pre) B := by
  intro pre post e
  subst e
  have hp := val_range (by omega : 0 < B) hf.left
  rw [List.length_append] at hl
  have h2 : B ^ pre.length ≤ (2 : Int) ^ 900 := by
    refine Int.le_trans (pow_base (by omega) hB pre.length) ?_
    rw [show (512 : Int) = 2 ^ 9 by decide, ← Int.pow_mul]
    exact pow_le (by decide) (by omega)
  exact IntMulOk.of_le (m := 900) (n := 10) (bits_of hp.1 (Int.lt_of_lt_of_le hp.2 h2)) (bits_of (by omega) (Int.lt_of_le_of_lt hB (by decide))) (by decide)
end Mine
end
section
example : True := by
  w_top off
  trivial
open PySem PySem.W PyProof.Rows PySem.Calls
namespace Mine
theorem bytes_has_len : typeLookup (.type "bytes") "__len__" = pure (some (.builtin "bytes.__len__")) := by rw [typeLookup_type, builtinLookup_eq_fast]; kernel_rfl
section
variable {prog : Program} {w : World} {A : Around} {E : Value → Shared → Prop} {s : Shared} {b : Array UInt8} {t : Tok}
def OctAt (b : Array UInt8) (i : Nat) (v : Value) : Prop := ∃ c u, b[i]? = some c ∧ v = .int (c.toNat : Int) u
theorem extend_bytes {R : Result → Shared → Prop} (hh : A.handled = none) (S : Addr) (res : Value) (c₀ : Nat) (hS : s.heap.get? S = some { cls := .type "list", data := .seq #[] c₀ })
    (hR : ∀ h' tk acc' c', (∀ b o, b ≠ S → s.heap.get? b = some o → h'.get? b = some o) → h'.get? S = some { cls := .type "list", dict := none, data := .seq acc' c', slots := #[] } →
      ItemsOf (OctAt b) acc' b.size → R (.ok (.ret res)) { s with heap := h', toks := tk }) (hn : b.size ≤ sizeLine) :
    wpAny (model prog w) A.in1 (Builtin.List.listExtendWith (.ref S) (.bytes b t) res)
      (fun fin s' => match fin with | .done f => R (.ok f) s' | .again c' => c'.quiet = true ∧ codeAny (model prog w) A c' R s') (fun e s' => R (.error e) s') s := by
  have hSI : S ≠ s.heap.objs.size := Nat.ne_of_lt (Heap.lt_size hS)
  have hSf : S ∉ [s.heap.objs.size] := fun hm => hSI (List.mem_singleton.mp hm)
  unfold Builtin.List.listExtendWith
  refine wpAny_bind (wpAny_typeOf (T := "bytes") (v := .bytes b t) rfl ?_)
  have h1 : Builtin.List.listSameRef (.ref S) (.bytes b t) = false := rfl
  have h2 : (Value.type "bytes" == Value.type "list") = false := by decide
  have h3 : (Value.type "bytes" == Value.type "tuple") = false := by decide
  simp only [h1, h2, h3, Bool.or_false, Bool.false_eq_true, if_false]
  refine wpAny_bind (KBw.pyIter_bytes ?_)
  refine wpAny_bind (wpAny_holding ?_)
  unfold Builtin.List.listLengthHint
  refine wpAny_bind (wpAny_specialOf (T := "bytes") (v := .bytes b t) rfl bytes_has_len ?_)
  wp_delta
  refine wpAny_bind (wpAny_isInstance (T := "bytes") (v := .bytes b t) (b := true) rfl (by rw [isSubtype_type]; kernel_rfl) ?_)
  show wpAny _ _ (typeOf (Value.bytes b t) >>= _) _ _ _
  refine wpAny_bind (wpAny_typeOf (T := "bytes") (v := .bytes b t) rfl ?_)
  refine wpAny_pure ?_
  rw [if_neg (by decide)]
  refine wpAny_pure ⟨plainId_quiet F.plain_extend_loop _, codeAny_extend_loopS (KBw.walks (A := A.in1) hh s.heap.objs.size b t).toS hn _ hSf _ b.size 0 _ _ _ rfl (Nat.zero_le _) ⟨_, Heap.get?_push_size _ rfl, rfl, rfl⟩ (Heap.get?_push_of_some _ hS) (ItemsOf.nil _) fun s' acc' c' hm hS' hacc => ?_⟩
  rw [Moved.eq_with hm]
  refine hR s'.heap s'.toks acc' c' (fun b ob hb e => hm.heap b ob (fun hmem => ?_) (Heap.get?_push_of_some _ e)) hS' hacc
  rcases List.mem_cons.mp hmem with e' | hmem
  · exact hb e'
  · exact absurd (Heap.lt_size e) (by rw [List.mem_singleton.mp hmem]; exact Nat.lt_irrefl _)
theorem init_bytes {R : Result → Shared → Prop} (hh : A.handled = none) (S : Addr) (hS : s.heap.get? S = some { cls := .type "list", data := .seq #[] })
    (hR : ∀ h' tk acc' c', (∀ b o, b ≠ S → s.heap.get? b = some o → h'.get? b = some o) → h'.get? S = some { cls := .type "list", dict := none, data := .seq acc' c', slots := #[] } →
      ItemsOf (OctAt b) acc' b.size → R (.ok (.ret .none)) { s with heap := h', toks := tk }) (hn : b.size ≤ sizeLine) :
    wpAny (model prog w) A.in1 (Builtin.«list.__init__» ⟨[.ref S, .bytes b t], []⟩)
      (fun fin s' => match fin with | .done f => R (.ok f) s' | .again c' => c'.quiet = true ∧ codeAny (model prog w) A c' R s') (fun e s' => R (.error e) s') s := by
  show wpAny _ _ (do let old ← Builtin.List.listItems (.ref S); Builtin.List.listUpdate (.ref S) (fun _ => #[]); letGo old.toList.reverse; Builtin.List.listExtendWith (.ref S) (.bytes b t) .none) _ _ s
  refine wpAny_bind ?_
  unfold Builtin.List.listItems
  refine wpAny_bind (wpAny_seqItems hS rfl (wpAny_pure ?_))
  show wpAny _ _ (updateSeq S (fun _ => #[]) >>= fun _ => letGo (#[] : Array Value).toList.reverse >>= fun _ => Builtin.List.listExtendWith (.ref S) (.bytes b t) .none) _ _ s
  refine wpAny_bind (wpAny_updateSeq hS rfl ?_)
  have hS₂ := Heap.get?_update_self (Obj.mapSeq (fun _ => (#[] : Array Value))) hS rfl
  have oth : ∀ b o, b ≠ S → s.heap.get? b = some o → (s.heap.update S (Obj.mapSeq (fun _ => (#[] : Array Value)))).get? b = some o :=
    fun b o hb e => (Heap.get?_update_other _ _ (Ne.symm hb)).trans e
  refine wpAny_bind (wpAny_letGo ?_)
  refine extend_bytes (hn := hn) hh S .none _ hS₂ fun h' tk acc' c' hk hS' hacc => ?_
  exact hR h' tk acc' c' (fun b o hb e => hk b o hb (oth b o hb e)) hS' hacc
theorem ints_of {acc : List Value} {l : List UInt8} (hz : acc.length = l.length) (h : ∀ (j : Nat) (v : Value), acc[j]? = some v → ∃ c u, l[j]? = some c ∧ v = .int (c.toNat : Int) u) : IntsAre acc (l.map fun c => (c.toNat : Int)) := by
  induction acc generalizing l with
  | nil => cases l with
    | nil => exact .nil
    | cons _ _ => simp at hz
  | cons a acc ih => cases l with
    | nil => simp at hz
    | cons c l =>
      obtain ⟨c', u, hc, rfl⟩ := h 0 a rfl
      have : c = c' := by simpa using hc
      subst this
      exact .cons _ _ (ih (by simpa using hz) fun j v hv => h (j + 1) v hv)
theorem list_bytes {h₀ : Heap} {L : Addr} {m : PySem.Str → Option Value} {news : List (Addr × Obj)} {ks : List Int} {Q : Value → Shared → Prop} (Fh : Fr h₀ L s.heap m) (N : News h₀ L s.heap news) (hh : A.handled = none) (hk : KBw.bInts b = ks) (hl : ks.length ≤ 1000)
    (h : ∀ D vs n h' tk, Fr h₀ L h' m → News h₀ L h' ((D, listOf vs.toArray n) :: news) → IntsAre vs ks → (∀ p ∈ news, p.1 < D) → Q (.ref D) { s with heap := h', toks := tk }) :
    wpAny (model prog w) A (call (.type "list") [.bytes b t]) Q E s := by
  have hsz : b.size ≤ 1000 := by rw [← KBw.ints_length, hk]; exact hl
  refine callType_codes (Q₁ := fun obj s₁ => obj = .ref s.heap.objs.size ∧ s₁ = { s with heap := s.heap.push { cls := .type "list", data := .seq #[] } }) F.called_list (F.typeCall_list_1 _) F.entry_list_init
    (code_list_new _ ⟨rfl, rfl⟩) fun obj s₁ h₁ => ?_
  obtain ⟨rfl, rfl⟩ := h₁
  have hS : (s.heap.push { cls := .type "list", data := .seq #[] }).get? s.heap.objs.size = some { cls := .type "list", data := .seq #[] } := Heap.get?_push_size _ rfl
  refine ⟨⟨_, hS, rfl⟩, F.args_list_init_2 _ _, init_bytes (A := A.in1) (hn := by rw [sizeLine_eq]; omega) hh _ hS fun h' tk acc' c' hk' hS' hacc => ?_⟩
  have keep : ∀ a o, s.heap.get? a = some o → h'.get? a = some o := fun a o e => hk' a o (Nat.ne_of_lt (Heap.lt_size e)) (Heap.get?_push_of_some _ e)
  refine ⟨rfl, h _ acc'.toList c' h' tk (Fh.keptAll keep) ?_ ?_ fun p hp => Heap.lt_size (N p hp).1⟩
  · refine News.more (Fh.keptAll keep) (N.grown keep) hS' (fun _ _ e => by cases e) ?_
    cases e : h₀.get? s.heap.objs.size with
    | none => rfl
    | some o => exact absurd (Heap.lt_size (Fh.keep _ _ e)) (Nat.lt_irrefl _)
  · subst hk
    exact ints_of (by rw [Array.length_toList]; exact hacc.1) fun j v hv => by
      obtain ⟨c, u, hc, e⟩ := hacc.2 j v (by rw [← Array.getElem?_toList]; exact hv)
      exact ⟨c, u, by rw [Array.getElem?_toList]; exact hc, e⟩
end
end Mine
end
section
example : True := by
  w_top off
  trivial
open PySem PySem.W PyProof.Rows PySem.Calls
namespace Mine
theorem slice58 {ds : List Int} {n : Nat} (h : n ≤ ds.length) : Txt.slice (text58 ds) none (some (n : Int)) = text58 (ds.take n) := by
  have e0 : (text58 ds).cps.toList = ds.map code58 := by simp [text58]
  show StrLaws.sliceText (text58 ds) none (some (n : Int)) = _
  rw [StrLaws.sliceText_to ⟨by omega, by rw [e0, List.length_map]; omega⟩, e0]
  refine Str.ext' ?_
  simp [text58, List.map_take]
theorem idx_clip (n len : Nat) {j : Int} (h : (len : Int) ≤ j) : PySem.Builtin.Str.strSliceIndices (some (n : Int)) (some j) 1 len = PySem.Builtin.Str.strSliceIndices (some (n : Int)) (some (len : Int)) 1 len := by
  have h0 : ¬ j < 0 := by omega
  have h1 : min j (len : Int) = len := by omega
  have h2 : ¬ ((len : Int) < 0) := by omega
  have h3 : max (0 : Int) (min (len : Int) (len : Int)) = len := by omega
  simp only [PySem.Builtin.Str.strSliceIndices, h0, h1, h2, h3, if_false, if_true, show (1 : Int) > 0 by decide]
  rw [show max (0 : Int) (len : Int) = len by omega]
theorem slice58b {ds : List Int} {n : Nat} (h : n ≤ ds.length) : Txt.slice (text58 ds) (some (n : Int)) (some ((n : Int) + 1)) = text58 ((ds.drop n).take 1) := by
  have e0 : (text58 ds).cps.toList = ds.map code58 := by simp [text58]
  by_cases hn : n < ds.length
  · show StrLaws.sliceText (text58 ds) (some (n : Int)) (some ((n : Int) + 1)) = _
    rw [StrLaws.sliceText_plain ⟨by omega, by omega, by rw [e0, List.length_map]; omega⟩, e0]
    refine Str.ext' ?_
    simp [text58, List.map_take, List.map_drop]
  · have hl : (text58 ds).length = n := by rw [text58_len]; omega
    have e : Txt.slice (text58 ds) (some (n : Int)) (some ((n : Int) + 1)) = Txt.slice (text58 ds) (some (n : Int)) (some (n : Int)) := by
      unfold Txt.slice
      rw [hl, idx_clip n n (by omega)]
    rw [e]
    show StrLaws.sliceText (text58 ds) (some (n : Int)) (some (n : Int)) = _
    rw [StrLaws.sliceText_plain ⟨by omega, by omega, by rw [e0, List.length_map]; omega⟩, e0]
    refine Str.ext' ?_
    have h2 : ds.drop n = [] := List.drop_eq_nil_of_le (by omega)
    simp [text58, h2]
structure T58 (ks ds : List Int) : Prop where
  figs : Figs 58 ds
  len : ds.length ≤ 100
  value : val 58 ds = val 256 ks
  back : decB ds = ks
  ahead : ds.take (lead ks) = List.replicate (lead ks) 0
  low : lead ks ≤ ds.length
  next : (ds.drop (lead ks)).getD 0 1 ≠ 0
theorem es_len {es : List Int} {V : Int} (h : es.length = 0 ∨ 58 ^ (es.length - 1) ≤ V) (hV : V < 2 ^ 64) : es.length ≤ 64 := by
  rcases h with h | h
  · omega
  · have h1 := pow58_ge (es.length - 1)
    have := two_le (a := es.length - 1) (b := 64) (by omega)
    omega
theorem figs_zeros {B : Int} (hB : 0 < B) (n : Nat) : Figs B (List.replicate n 0) := fun x hx => by rw [List.eq_of_mem_replicate hx]; exact ⟨by omega, hB⟩
theorem t58 {ks es : List Int} (hk : Figs 256 ks) (hl : ks.length ≤ 12) (hV : PySem.Flt.Hid (val 256 ks < 2 ^ 64)) (he : Figs 58 es) (hv : val 58 es = val 256 ks) (hn : es.length = 0 ∨ 58 ^ (es.length - 1) ≤ val 256 ks) :
    T58 ks (List.replicate (lead ks) 0 ++ es) where
  figs := (figs_zeros (by decide) _).app he
  len := by
    have h1 := es_len hn hV.1
    have h2 := lead_le ks
    rw [List.length_append, List.length_replicate]; omega
  value := by rw [val_zeros_app]; exact hv
  back := dec_back hk he hv (norm_of_ge (by decide) he (by rw [hv]; exact hn))
  ahead := by rw [List.take_left' (List.length_replicate)]
  low := by rw [List.length_append, List.length_replicate]; omega
  next := by
    rw [List.drop_left' (List.length_replicate)]
    exact norm_of_ge (by decide) he (by rw [hv]; exact hn)
theorem one_text : Str.ofString "1" = (⟨#[49]⟩ : Str) := by decide +kernel
theorem code1 : ∀ i : Fin 58, (code58 ((i.val : Nat) : Int) = 49) → i.val = 0 := by decide +kernel
section
variable {prog : Program} {w : World} {A : Around} {E : Value → Shared → Prop} {s : Shared} {t u : Tok} {h₀ : Heap} {L : Addr} {m : PySem.Str → Option Value} {news : List (Addr × Obj)} {ks ds : List Int} {value slice : Expr}
theorem mul1 {n : Nat} {Q : Value → Shared → Prop} (hn : n ≤ 100) (h : ∀ t' k, Q (.str (text58 (List.replicate n 0)) t') { s with toks := k }) :
    wpAny (model prog w) A (binaryOp .Mult (.str (Str.ofString "1") t) (.int (n : Int) u)) Q E s := by
  rw [one_text]
  refine SB.mul (mulOk_of 16 1048576 (by decide) (by omega) (by omega) (by decide) (by decide)) fun t' k' => ?_
  rw [mul_text]
  exact h t' k'
theorem cut1 {n : Nat} {uj : Tok} {Q : Value → Shared → Prop} (hT : T58 ks ds) (hn : n = lead ks) (hF : Fr h₀ L s.heap m) (hN : News h₀ L s.heap news) (h : ∀ h' t' k, Fr h₀ L h' m → News h₀ L h' news → Q (.str (text58 (List.replicate (lead ks) 0)) t') { s with heap := h', toks := k })
    (hs : subscripted slice false (.str (text58 ds) t) (.ref s.heap.objs.size) = operate [.ref s.heap.objs.size, .str (text58 ds) t] (getItem (.str (text58 ds) t) (.ref s.heap.objs.size)))
    (ht : ∀ r, letTemporaryGo value (.str (text58 ds) t) r = pure ()) :
    wpAny (model prog w) A (subscriptTail value slice (.str (text58 ds) t) (.ref s.heap.objs.size)) Q E { s with heap := s.heap.push { cls := .type "slice", data := .fields #[.none, .int (n : Int) uj, .none] } } := by
  subst hn
  have hl := hT.len
  refine slice_strN_ns hF hN (fun h' t' k a b => ?_) hs ht (by rw [text58_len, sizeLine_eq]; omega)
  rw [slice58 hT.low, hT.ahead]
  exact h h' t' k a b
theorem cut2 {n : Nat} {j : Int} {ui uj : Tok} {Q : Value → Shared → Prop} (hT : T58 ks ds) (hn : n = lead ks) (hj : j = n + 1) (hF : Fr h₀ L s.heap m) (hN : News h₀ L s.heap news) (h : ∀ h' t' k, Fr h₀ L h' m → News h₀ L h' news → Q (.str (text58 ((ds.drop (lead ks)).take 1)) t') { s with heap := h', toks := k })
    (hs : subscripted slice false (.str (text58 ds) t) (.ref s.heap.objs.size) = operate [.ref s.heap.objs.size, .str (text58 ds) t] (getItem (.str (text58 ds) t) (.ref s.heap.objs.size)))
    (ht : ∀ r, letTemporaryGo value (.str (text58 ds) t) r = pure ()) :
    wpAny (model prog w) A (subscriptTail value slice (.str (text58 ds) t) (.ref s.heap.objs.size)) Q E { s with heap := s.heap.push { cls := .type "slice", data := .fields #[.int (n : Int) ui, .int j uj, .none] } } := by
  subst hn hj
  have hl := hT.len
  refine slice_strN_ss hF hN (fun h' t' k a b => ?_) hs ht (by rw [text58_len, sizeLine_eq]; omega)
  rw [slice58b hT.low]
  exact h h' t' k a b
theorem eq1 {Q : Value → Shared → Prop} (hT : T58 ks ds) (h : Q (.bool false) s) : wpAny (model prog w) A (compareOp .Eq (.str (text58 ((ds.drop (lead ks)).take 1)) t) (.str (Str.ofString "1") u)) Q E s := by
  refine eq_str ?_
  have hf : Figs 58 (ds.drop (lead ks)) := drop_figs hT.figs _
  have hx := hT.next
  have e : (text58 ((ds.drop (lead ks)).take 1) == Str.ofString "1") = false := by
    rw [one_text]
    generalize ds.drop (lead ks) = r at hf hx
    cases r with
    | nil => decide +kernel
    | cons d r =>
      obtain ⟨h0, h1⟩ := hf.head
      obtain ⟨k, rfl⟩ := Int.eq_ofNat_of_zero_le h0
      apply beq_eq_false_iff_ne.mpr
      intro q
      have q1 : code58 (k : Int) = 49 := by simpa [text58] using q
      have := code1 ⟨k, by omega⟩ q1
      simp only [List.getD_cons_zero] at hx
      dsimp only at this
      omega
  rw [e]; exact h
theorem ne_same {x : Str} {Q : Value → Shared → Prop} (h : Q (.bool false) s) : wpAny (model prog w) A (compareOp .NotEq (.str x t) (.str x u)) Q E s := by
  refine ne_str ?_
  rw [show (x != x) = false by simp]; exact h
end
end Mine
end
section
example : True := by
  w_top off
  trivial
open PySem PySem.W PyProof.Rows PySem.Calls PyProof.Rows.LCg
namespace Mine
section
variable {prog : Program} {w : World} {A : Around} {E : Value → Shared → Prop} {s : Shared} {h₀ : Heap} {L : Addr} {m : PySem.Str → Option Value} {env : Env}
/-- an element's end: one figure -/
def El58 (h₀ : Heap) (L : Addr) (m : PySem.Str → Option Value) (s₁ : Shared) (d : Int) (led : List (Addr × Obj)) (r : Value) (s' : Shared) : Prop :=
  ∃ h' tk' t', r = .int d t' ∧ s' = { s₁ with heap := h', toks := tk' } ∧ Fr h₀ L h' m ∧ News h₀ L h' led
theorem rest58 {elt : Expr} {x : PySem.Str} {scope : Scope} {cl : List (PySem.Str × Addr)} {news : List (Addr × Obj)} {ds : List Int} {Fin : List Value → List (Addr × Obj) → Prop}
    (hel : ∀ (d : Int) (i : Nat) u I oI C oC D ys m₂ h tk (E' : Value → Shared → Prop), ds[i]? = some d → NsObj oC m₂ → m₂ x = some (.str ⟨#[code58 d]⟩ u) → Fr h₀ L h m → News h₀ L h ((I, oI) :: (C, oC) :: (D, lst ys) :: news) →
      Off3 I C D news → ((@Ne Nat I C) ∧ (@Ne Nat I D) ∧ (@Ne Nat C D)) → wpAny (model prog w) A (eval elt (compEnvC scope cl C env)) (El58 h₀ L m s d ((I, oI) :: (C, oC) :: (D, lst ys) :: news)) E' { s with heap := h, toks := tk })
    (hfin : ∀ ys, IntsAre ys ds → Fin ys news) :
    ∀ (k i : Nat) (ys : List Value), k + i = ds.length → IntsAre ys (ds.take i) → CompRest prog w A h₀ L m env elt x scope cl s (fun _ => True) (SignAt (text58 ds)) Fin k i ys news
  | 0, i, ys, e, hi => by
    rw [List.take_of_length_le (by omega)] at hi
    exact .zero (hfin ys hi)
  | k + 1, i, ys, e, hi => by
    refine .succ fun v I oI C oC D m₂ h tk E' hP hn hm F N off ne => ?_
    obtain ⟨c, u, hc, rfl⟩ := hP
    have hlt : i < ds.length := by omega
    have hd : ds[i]? = some ds[i] := List.getElem?_eq_getElem hlt
    have hc' : c = code58 ds[i] := by
      have : (text58 ds).cps[i]? = some (code58 ds[i]) := by simp [text58, hd]
      rw [this] at hc; exact (Option.some.inj hc).symm
    subst hc'
    refine wpAny_mono (hel ds[i] i u I oI C oC D ys m₂ h tk E' hd hn hm F N off ne) (fun r s' hr => ?_) fun _ _ e => e
    obtain ⟨h', tk', t', rfl, rfl, F', N'⟩ := hr
    refine CompEnd.intro (s₁ := { s with heap := h, toks := tk }) F' N' news (fun p hp => hp) off trivial (rest58 hel hfin k (i + 1) _ (by omega) ?_)
    rw [List.take_succ_eq_append_getElem hlt]
    exact IntsAre.append hi (.cons _ _ .nil)
def Src58 (prog : Program) (w : World) (A : Around) (h₀ : Heap) (L : Addr) (m : PySem.Str → Option Value) (env : Env) (elt : Expr) (x : PySem.Str) (scope : Scope) (cl : List (PySem.Str × Addr)) (Q : Value → Shared → Prop) (xv : Value) (s₁ : Shared) : Prop :=
  ∃ ds t news, xv = .str (text58 ds) t ∧ ds.length ≤ 100 ∧ A.handled = none ∧ Fr h₀ L s₁.heap m ∧ News h₀ L s₁.heap news ∧
    (∀ (d : Int) (i : Nat) u I oI C oC D ys m₂ h tk (E' : Value → Shared → Prop), ds[i]? = some d → NsObj oC m₂ → m₂ x = some (.str ⟨#[code58 d]⟩ u) → Fr h₀ L h m → News h₀ L h ((I, oI) :: (C, oC) :: (D, lst ys) :: news) →
      Off3 I C D news → ((@Ne Nat I C) ∧ (@Ne Nat I D) ∧ (@Ne Nat C D)) → wpAny (model prog w) A (eval elt (compEnvC scope cl C env)) (El58 h₀ L m s₁ d ((I, oI) :: (C, oC) :: (D, lst ys) :: news)) E' { s₁ with heap := h, toks := tk }) ∧
    (∀ D vs h' tk, Fr h₀ L h' m → News h₀ L h' ((D, lst vs) :: news) → IntsAre vs ds → Q (.ref D) { s₁ with heap := h', toks := tk })
theorem str_st {I : Addr} {T : String} {x : PySem.Str} {t : Tok} : ∀ (i : Nat) (h h' : Heap) (o : Obj) (nw : List (Addr × Obj)), h.IsStrIter I T x t i → h.get? I = some o → h'.get? I = some o → (∀ b o, h₀.get? b = some o → h'.get? b = some o) → News h₀ L h' nw → True → h'.IsStrIter I T x t i :=
  fun i h h' o nw st e e' _ _ _ => by obtain ⟨o', q, r⟩ := st; rw [e] at q; cases q; exact ⟨o, e', r⟩
theorem ListComp_S {elt iter : Expr} {x : PySem.Str} {px : Pos} {scope : Scope} {cl : List (PySem.Str × Addr)} {pos : Pos} {Q : Value → Shared → Prop}
    (F₀ : Fr h₀ L s.heap m) (hclos : closureFor scope env = pure cl) (hcell : ∀ y ∈ scope.names, y.2 ≠ .cell) (hkind : scope.kind = .function)
    (hnames : ∀ y ∈ scope.names, y.2 = .local → scope.names.lookup y.1 = some .local) (hx : scope.names.lookup x = some .local)
    (h : wpAny (model prog w) A (eval iter env) (Src58 prog w A h₀ L m env elt x scope cl Q) E s)
    (hs : ∀ x, foldedSetIterable iter env x = pure x := by intro _; rfl) :
    wpAny (model prog w) A (eval (.ListComp elt [⟨.Name x px, iter, [], 0⟩] scope pos) env) Q E s := by
  rw [eval_ListComp]
  refine wpAny_comprehension_free (use := none) rfl hs hclos hkind hnames (wpAny_mono h (fun xv s₁ h₁ => ?_) fun _ _ e => e)
  obtain ⟨ds, t, news, rfl, hl, hh, F, N, hel, hQ⟩ := h₁
  have hsz : (text58 ds).cps.size ≤ sizeLine := by
    have : (text58 ds).cps.size = ds.length := text58_len ds
    rw [this, sizeLine_eq]; omega
  have hlen : (text58 ds).cps.size = ds.length := text58_len ds
  cases ha : (text58 ds).cps.all (· < 128)
  · refine wpAny_pyIter_wide ha ?_
    refine block_U (Walks.strWide hh s₁.heap.objs.size (text58 ds) t) hsz (fun i h st => by obtain ⟨o, e, _⟩ := st; exact ⟨o, e⟩) str_st hcell hkind hx ⟨_, Heap.get?_push_size _ rfl, rfl, rfl⟩ (fun b hb => ?_)
      (F.keeps fun _ _ e => Heap.get?_push_of_some _ e) (N.grown fun _ _ e => Heap.get?_push_of_some _ e) (Nat.ne_of_lt F.ns.lt) (next_is_new F) (fun p hp => Nat.ne_of_lt (Heap.lt_size (N p hp).1)) trivial
      (rest58 (s := { s₁ with heap := s₁.heap.push _ }) (Fin := fun vs nw => nw = news ∧ IntsAre vs ds) hel (fun ys hy => ⟨rfl, hy⟩) _ 0 [] (by omega) .nil) ?_
    · rw [List.mem_singleton.mp hb]
      show s₁.heap.objs.size < (s₁.heap.push _).objs.size
      rw [Heap.size_push]; exact Nat.lt_succ_self _
    · intro D C h tk m' ys news' F' N' o1 hn hC₀ hD₀ hCL hDL hCD offC fin
      obtain ⟨rfl, hi⟩ := fin
      refine ⟨m', hn, fun h'' hs'' => hQ D ys h'' tk (F'.change hs'' hCL hC₀) (fun p hp => ?_) hi⟩
      refine ⟨hs''.extBut _ _ ?_ (N' p hp).1, (N' p hp).2⟩
      rcases List.mem_cons.mp hp with rfl | hp
      · exact Ne.symm hCD
      · exact offC p hp
  · refine wpAny_pyIter_ascii ha ?_
    refine block_U (Walks.strAscii hh s₁.heap.objs.size (text58 ds) t) hsz (fun i h st => by obtain ⟨o, e, _⟩ := st; exact ⟨o, e⟩) str_st hcell hkind hx ⟨_, Heap.get?_push_size _ rfl, rfl, rfl⟩ (fun b hb => ?_)
      (F.keeps fun _ _ e => Heap.get?_push_of_some _ e) (N.grown fun _ _ e => Heap.get?_push_of_some _ e) (Nat.ne_of_lt F.ns.lt) (next_is_new F) (fun p hp => Nat.ne_of_lt (Heap.lt_size (N p hp).1)) trivial
      (rest58 (s := { s₁ with heap := s₁.heap.push _ }) (Fin := fun vs nw => nw = news ∧ IntsAre vs ds) hel (fun ys hy => ⟨rfl, hy⟩) _ 0 [] (by omega) .nil) ?_
    · rw [List.mem_singleton.mp hb]
      show s₁.heap.objs.size < (s₁.heap.push _).objs.size
      rw [Heap.size_push]; exact Nat.lt_succ_self _
    · intro D C h tk m' ys news' F' N' o1 hn hC₀ hD₀ hCL hDL hCD offC fin
      obtain ⟨rfl, hi⟩ := fin
      refine ⟨m', hn, fun h'' hs'' => hQ D ys h'' tk (F'.change hs'' hCL hC₀) (fun p hp => ?_) hi⟩
      refine ⟨hs''.extBut _ _ ?_ (N' p hp).1, (N' p hp).2⟩
      rcases List.mem_cons.mp hp with rfl | hp
      · exact Ne.symm hCD
      · exact offC p hp
theorem index_el {ds : List Int} {i : Nat} {d : Int} {t u : Tok} {Q : Value → Shared → Prop} (hd : ds[i]? = some d) (hf : Figs 58 ds) (hA : A.handled = none) (h : Q (.int d s.toks) { s with toks := s.toks + 1 }) :
    wpAny (model prog w) A (call (.builtin "str.index") [.str (Str.ofString "123456789ABCDEFGHJKLMNPQRSTUVWXYZabcdefghijkmnopqrstuvwxyz") t, .str ⟨#[code58 d]⟩ u]) Q E s := by
  obtain ⟨h0, h1⟩ := hf d (List.mem_of_getElem? hd)
  refine index58 hA ⟨d, h0, h1, rfl⟩ ?_
  rw [idx_code h0 h1]; exact h
end
end Mine
end
section
example : True := by
  w_top off
  trivial
open PySem PySem.W PyProof.Rows PySem.Calls PyProof.Rows.LCg
namespace Mine
section
variable {prog : Program} {w : World} {A : Around} {E : Value → Shared → Prop} {s : Shared} {h₀ : Heap} {L : Addr} {m : PySem.Str → Option Value} {env : Env}
/-- a test's end -/
def TsF (h₀ : Heap) (L : Addr) (m : PySem.Str → Option Value) (s₁ : Shared) (b : Bool) (led : List (Addr × Obj)) (ok : Bool) (s' : Shared) : Prop :=
  ∃ h' tk', ok = b ∧ s' = { s₁ with heap := h', toks := tk' } ∧ Fr h₀ L h' m ∧ News h₀ L h' led
theorem restF {ct elt : Expr} {x : PySem.Str} {scope : Scope} {cl : List (PySem.Str × Addr)} {news : List (Addr × Obj)} {ns : List Int} {vs : List Value} {p : Int → Bool} {S : List (Addr × Obj) → Prop} {Fin : List Value → List (Addr × Obj) → Prop}
    (hi : IntsAre vs ns) (hS : S news)
    (hts : ∀ (k : Int) t I oI C oC D ys m₂ h tk (E' : Value → Shared → Prop), NsObj oC m₂ → m₂ x = some (.int k t) → Fr h₀ L h m → News h₀ L h ((I, oI) :: (C, oC) :: (D, lst ys) :: news) →
      Off3 I C D news → ((@Ne Nat I C) ∧ (@Ne Nat I D) ∧ (@Ne Nat C D)) → wpAny (model prog w) A (isTrue ct (compEnvC scope cl C env) (eval ct (compEnvC scope cl C env))) (TsF h₀ L m s (p k) ((I, oI) :: (C, oC) :: (D, lst ys) :: news)) E' { s with heap := h, toks := tk })
    (hel : ∀ (k : Int) t I oI C oC D ys m₂ h tk (E' : Value → Shared → Prop), NsObj oC m₂ → m₂ x = some (.int k t) → Fr h₀ L h m → News h₀ L h ((I, oI) :: (C, oC) :: (D, lst ys) :: news) →
      Off3 I C D news → ((@Ne Nat I C) ∧ (@Ne Nat I D) ∧ (@Ne Nat C D)) → wpAny (model prog w) A (eval elt (compEnvC scope cl C env)) (El58 h₀ L m s k ((I, oI) :: (C, oC) :: (D, lst ys) :: news)) E' { s with heap := h, toks := tk })
    (hfin : ∀ ys, IntsAre ys (ns.filter p) → Fin ys news) :
    ∀ (n i : Nat) (ys : List Value), n + i = ns.length → IntsAre ys ((ns.take i).filter p) → LCt.CompRestT prog w A h₀ L m env ct elt x scope cl s S (fun i v => vs.toArray[i]? = some v) Fin n i ys news
  | 0, i, ys, e, hy => by
    rw [List.take_of_length_le (by omega)] at hy
    exact .zero (hfin ys hy)
  | n + 1, i, ys, e, hy => by
    refine .succ fun v I oI C oC D m₂ h tk E' hP hn hm F N off ne => ?_
    obtain ⟨k, t, rfl, hk⟩ := IntsAre.at hi i v (by simpa using hP)
    have hlt : i < ns.length := by omega
    have hk' : ns[i] = k := by rw [List.getElem?_eq_getElem hlt] at hk; exact Option.some.inj hk
    have step : (ns.take (i + 1)).filter p = (ns.take i).filter p ++ (if p k = true then [k] else []) := by
      rw [List.take_succ_eq_append_getElem hlt, hk', List.filter_append]
      congr 1
      by_cases q : p k = true
      · simp [q]
      · simp [q]
    refine wpAny_mono (hts k t I oI C oC D ys m₂ h tk E' hn hm F N off ne) (fun ok s' hr => ?_) fun _ _ e => e
    obtain ⟨h', tk', rfl, rfl, F', N'⟩ := hr
    by_cases q : p k = true
    · rw [if_pos q]
      rw [if_pos q] at step
      refine wpAny_mono (hel k t I oI C oC D ys m₂ h' tk' E' hn hm F' N' off ne) (fun r s' hr => ?_) fun _ _ e => e
      obtain ⟨h'', tk'', t', rfl, rfl, F'', N''⟩ := hr
      refine CompEnd.intro (s₁ := { s with heap := h, toks := tk }) F'' N'' news (fun p hp => hp) off hS (restF hi hS hts hel hfin n (i + 1) _ (by omega) ?_)
      rw [step]
      exact IntsAre.append hy (.cons _ _ .nil)
    · rw [if_neg q]
      rw [if_neg q, List.append_nil] at step
      refine CompEnd.intro (s₁ := { s with heap := h, toks := tk }) F' N' news (fun p hp => hp) off hS (restF hi hS hts hel hfin n (i + 1) _ (by omega) ?_)
      rw [step]; exact hy
def SrcF (prog : Program) (w : World) (A : Around) (h₀ : Heap) (L : Addr) (m : PySem.Str → Option Value) (env : Env) (ct elt : Expr) (x : PySem.Str) (scope : Scope) (cl : List (PySem.Str × Addr)) (p : Int → Bool) (Q : Value → Shared → Prop) (xv : Value) (s₁ : Shared) : Prop :=
  ∃ ax vs nn ns news, xv = .ref ax ∧ A.handled = none ∧ Fr h₀ L s₁.heap m ∧ News h₀ L s₁.heap news ∧ (ax, ({ cls := .type "list", data := .seq vs.toArray nn } : Obj)) ∈ news ∧ IntsAre vs ns ∧ ns.length ≤ 1000 ∧
    (∀ (k : Int) t I oI C oC D ys m₂ h tk (E' : Value → Shared → Prop), NsObj oC m₂ → m₂ x = some (.int k t) → Fr h₀ L h m → News h₀ L h ((I, oI) :: (C, oC) :: (D, lst ys) :: news) →
      Off3 I C D news → ((@Ne Nat I C) ∧ (@Ne Nat I D) ∧ (@Ne Nat C D)) → wpAny (model prog w) A (isTrue ct (compEnvC scope cl C env) (eval ct (compEnvC scope cl C env))) (TsF h₀ L m s₁ (p k) ((I, oI) :: (C, oC) :: (D, lst ys) :: news)) E' { s₁ with heap := h, toks := tk }) ∧
    (∀ (k : Int) t I oI C oC D ys m₂ h tk (E' : Value → Shared → Prop), NsObj oC m₂ → m₂ x = some (.int k t) → Fr h₀ L h m → News h₀ L h ((I, oI) :: (C, oC) :: (D, lst ys) :: news) →
      Off3 I C D news → ((@Ne Nat I C) ∧ (@Ne Nat I D) ∧ (@Ne Nat C D)) → wpAny (model prog w) A (eval elt (compEnvC scope cl C env)) (El58 h₀ L m s₁ k ((I, oI) :: (C, oC) :: (D, lst ys) :: news)) E' { s₁ with heap := h, toks := tk }) ∧
    (∀ D ys h' tk, Fr h₀ L h' m → News h₀ L h' ((D, lst ys) :: news) → (∀ q ∈ news, q.1 ≠ D) → IntsAre ys (ns.filter p) → Q (.ref D) { s₁ with heap := h', toks := tk })
theorem off_all {D : Addr} {l : List (Addr × Obj)} (h : Off1 D l) : ∀ q ∈ l, q.1 ≠ D := by
  induction l with
  | nil => intro q hq; cases hq
  | cons a l ih =>
    intro q hq
    rcases List.mem_cons.mp hq with e | hq
    · rw [e]; exact h.1
    · exact ih h.2 q hq
theorem ListComp_F {ct elt iter : Expr} {x : PySem.Str} {px : Pos} {scope : Scope} {cl : List (PySem.Str × Addr)} {pos : Pos} {p : Int → Bool} {Q : Value → Shared → Prop} (F₀ : Fr h₀ L s.heap m)
    (hclos : closureFor scope env = pure cl) (hcell : ∀ y ∈ scope.names, y.2 ≠ .cell) (hkind : scope.kind = .function)
    (hnames : ∀ y ∈ scope.names, y.2 = .local → scope.names.lookup y.1 = some .local) (hx : scope.names.lookup x = some .local)
    (h : wpAny (model prog w) A (eval iter env) (SrcF prog w A h₀ L m env ct elt x scope cl p Q) E s)
    (hs : ∀ x, foldedSetIterable iter env x = pure x := by intro _; rfl) :
    wpAny (model prog w) A (eval (.ListComp elt [⟨.Name x px, iter, [ct], 0⟩] scope pos) env) Q E s := by
  refine LCt.ListComp_T F₀ hclos hcell hkind hnames hx (wpAny_mono h (fun xv s₁ h₁ => ?_) fun _ _ e => e) hs
  obtain ⟨ax, vs, nn, ns, news, rfl, hh, F, N, hm, hi, hl, hts, hel, hQ⟩ := h₁
  have hlen := IntsAre.length hi
  refine LCt.CompSrcT.ledger hh F N hm (by rw [List.size_toArray, sizeLine_eq]; omega) fun g => ?_
  have hz : vs.toArray.size = ns.length := by rw [List.size_toArray]; exact hlen
  rw [hz]
  exact restF (s := { s₁ with heap := g }) hi (.inr ⟨_, hm, rfl, _, rfl⟩) hts hel (fun ys hy D h' tk F' N' o1 => hQ D ys h' tk F' N' (off_all o1) hy) _ 0 [] (by omega) .nil
end
end Mine
end
section
example : True := by
  w_top off
  trivial
open PySem PySem.W PyProof.Rows PySem.Calls
namespace Mine
structure CBf (f u : Int) (pad : Bool) (ks : List Int) (r : Option (List Int)) : Prop where
  h : CB f u pad ks r
theorem fold_eq {B : Int} (h1 : 2 ≤ B) (h2 : B ≤ 512) : ∀ (rs l : List Int),
    rs.foldl (fun l' k' => if 2 ≤ B ∧ B ≤ 512 ∧ B ≤ k' then l' ++ [k'] else if 2 ≤ B ∧ B ≤ 512 ∧ ¬ B ≤ k' then l' else l') l = l ++ rs.filter (fun k => decide (B ≤ k))
  | [], l => by simp
  | k :: rs, l => by
    rw [List.foldl_cons, fold_eq h1 h2 rs, List.filter_cons]
    by_cases hk : B ≤ k
    · rw [if_pos ⟨h1, h2, hk⟩, decide_eq_true hk, if_pos rfl]; simp
    · rw [if_neg (fun h => hk h.2.2), if_pos ⟨h1, h2, hk⟩, decide_eq_false hk]; simp
theorem pow_bounds {wd : Int} (h1 : 1 ≤ wd) (h2 : wd ≤ 9) : 2 ≤ (2:Int) ^ wd.toNat ∧ (2:Int) ^ wd.toNat ≤ 512 :=
  ⟨pow_le (x := 1) (by decide) (by omega), pow_le (y := 9) (by decide) (by omega)⟩
theorem leaf_none {wd nr : Int} {rs : List Int} {p : Int → Bool} (hp : p = fun k => decide ((2 : Int) ^ wd.toNat ≤ k)) (h : CBf wd nr true rs none) (h0 : ∀ x ∈ rs, 0 ≤ x) (h1 : 1 ≤ wd) (h2 : wd ≤ 9)
    (a : (true != !decide (rs.filter p = [])) = true) : False := by
  subst hp
  obtain ⟨b1, b2⟩ := pow_bounds h1 h2
  rcases h.h with ⟨x, hx, ho⟩ | ⟨hq, _⟩
  · have hx0 := h0 x hx
    have hb : (2:Int) ^ wd.toNat ≤ x := by omega
    have hne : rs.filter (fun k => decide ((2:Int) ^ wd.toNat ≤ k)) ≠ [] := by
      intro e
      have : x ∈ rs.filter (fun k => decide ((2:Int) ^ wd.toNat ≤ k)) := List.mem_filter.mpr ⟨hx, decide_eq_true hb⟩
      rw [e] at this; cases this
    rw [decide_eq_false hne] at a
    cases a
  · cases hq
theorem leaf_some {wd nr : Int} {rs ys : List Int} {p : Int → Bool} (hp : p = fun k => decide ((2 : Int) ^ wd.toNat ≤ k)) (h : CBf wd nr true rs (some ys)) (h1 : 1 ≤ wd) (h2 : wd ≤ 9)
    (a : (false != !decide (rs.filter p = [])) = true) : False := by
  subst hp
  obtain ⟨b1, b2⟩ := pow_bounds h1 h2
  have hf := h.h.1
  have he : rs.filter (fun k => decide ((2:Int) ^ wd.toNat ≤ k)) = [] := by
    apply List.filter_eq_nil_iff.mpr
    intro x hx
    have := hf x hx
    simp only [decide_eq_true_eq]; omega
  rw [decide_eq_true he] at a
  cases a
theorem grows (B : Int) : KPfGrows (fun l' k' => if 2 ≤ B ∧ B ≤ 512 ∧ B ≤ k' then l' ++ [k'] else if 2 ≤ B ∧ B ≤ 512 ∧ ¬ B ≤ k' then l' else l') := by
  intro l k
  dsimp only
  split
  · simp
  · split <;> simp
/-- what a telling row's groups are: the facts -/
theorem told_true {f u : Int} {xs ys : List Int} (h : CB f u true xs (some ys)) (hf : 1 ≤ f) (hf' : f ≤ 9) (hu : 1 ≤ u) (hu' : u ≤ 9) (hl : xs.length ≤ 7) :
    Figs (2 ^ f.toNat) xs ∧ Figs (2 ^ u.toNat) ys ∧ ys.length ≤ 100 ∧ ∃ e : Nat, u * ys.length = f * xs.length + e ∧ (e : Int) < u ∧ val (2 ^ u.toNat) ys = val (2 ^ f.toNat) xs * 2 ^ e := by
  obtain ⟨h1, h2, h3⟩ := h
  rw [if_pos rfl] at h3
  obtain ⟨e, e1, e2, e3⟩ := h3
  refine ⟨h1, h2, ?_, e, e1, e2, e3⟩
  have m1 : f * (xs.length : Int) ≤ 9 * 7 := Int.mul_le_mul hf' (by omega) (by omega) (by omega)
  have m2 : 1 * (ys.length : Int) ≤ u * ys.length := Int.mul_le_mul_of_nonneg_right hu (by omega)
  omega
theorem told_false {f u : Int} {xs ys : List Int} (h : CB f u false xs (some ys)) (hf : 1 ≤ f) (hf' : f ≤ 9) (hu : 1 ≤ u) (hu' : u ≤ 9) (hl : xs.length ≤ 7) :
    Figs (2 ^ f.toNat) xs ∧ Figs (2 ^ u.toNat) ys ∧ ys.length ≤ 100 ∧ ∃ e : Nat, f * xs.length = u * ys.length + e ∧ (e : Int) < u ∧ val (2 ^ f.toNat) xs = val (2 ^ u.toNat) ys * 2 ^ e := by
  obtain ⟨h1, h2, h3⟩ := h
  rw [if_neg (by decide)] at h3
  obtain ⟨e, e1, e2, _, e3⟩ := h3
  refine ⟨h1, h2, ?_, e, e1, e2, e3⟩
  have m1 : f * (xs.length : Int) ≤ 9 * 7 := Int.mul_le_mul hf' (by omega) (by omega) (by omega)
  have m2 : 1 * (ys.length : Int) ≤ u * ys.length := Int.mul_le_mul_of_nonneg_right hu (by omega)
  omega
theorem val_bits {B : Int} {n : Nat} {xs : List Int} (hB : 1 ≤ B) (hB' : B ≤ 512) (h : Figs B xs) (hl : xs.length ≤ 100) : PySem.Builtin.Int.intBits (val B xs) ≤ 900 := by
  have hp := val_range (by omega : 0 < B) h
  have h2 : B ^ xs.length ≤ (2 : Int) ^ 900 := by
    refine Int.le_trans (pow_base (by omega) hB' xs.length) ?_
    rw [show (512 : Int) = 2 ^ 9 by decide, ← Int.pow_mul]
    exact pow_le (by decide) (by omega)
  exact bits_of hp.1 (Int.lt_of_lt_of_le hp.2 h2)
section
variable {f u : Int} {pad : Bool} {xs ys : List Int}
theorem told_any (h : CBf f u pad xs (some ys)) (hf : 1 ≤ f) (hf' : f ≤ 9) (hu : 1 ≤ u) (hu' : u ≤ 9) (hl : xs.length ≤ 7) : Figs (2 ^ f.toNat) xs ∧ Figs (2 ^ u.toNat) ys ∧ ys.length ≤ 100 := by
  cases pad with
  | true => obtain ⟨a, b, c, _⟩ := told_true h.h hf hf' hu hu' hl; exact ⟨a, b, c⟩
  | false => obtain ⟨a, b, c, _⟩ := told_false h.h hf hf' hu hu' hl; exact ⟨a, b, c⟩
theorem mul_told (h : CBf f u pad xs (some ys)) (hf : 1 ≤ f) (hf' : f ≤ 9) (hu : 1 ≤ u) (hu' : u ≤ 9) (hl : xs.length ≤ 7) : ∀ pre post : List Int, ys = pre ++ post → IntMulOk (val (2 ^ u.toNat) pre) (2 ^ u.toNat) := by
  obtain ⟨_, b, c⟩ := told_any h hf hf' hu hu' hl
  obtain ⟨p1, p2⟩ := pow_bounds hu hu'
  exact mulok (by omega) p2 b c
theorem mul_row (h : CBf f u pad xs (some ys)) (hf : 1 ≤ f) (hf' : f ≤ 9) (hu : 1 ≤ u) (hu' : u ≤ 9) (hl : xs.length ≤ 7) : ∀ pre post : List Int, xs = pre ++ post → IntMulOk (val (2 ^ f.toNat) pre) (2 ^ f.toNat) := by
  obtain ⟨a, _, _⟩ := told_any h hf hf' hu hu' hl
  obtain ⟨p1, p2⟩ := pow_bounds hf hf'
  exact mulok (by omega) p2 a (by omega)
theorem exp_true (h : CBf f u true xs (some ys)) (hf : 1 ≤ f) (hf' : f ≤ 9) (hu : 1 ≤ u) (hu' : u ≤ 9) (hl : xs.length ≤ 7) : 0 ≤ u * (ys.length : Int) - f * (xs.length : Int) ∧ u * (ys.length : Int) - f * (xs.length : Int) ≤ 9 := by
  obtain ⟨_, _, _, e, e1, e2, _⟩ := told_true h.h hf hf' hu hu' hl
  omega
theorem exp_false (h : CBf f u false xs (some ys)) (hf : 1 ≤ f) (hf' : f ≤ 9) (hu : 1 ≤ u) (hu' : u ≤ 9) (hl : xs.length ≤ 7) : 0 ≤ f * (xs.length : Int) - u * (ys.length : Int) ∧ f * (xs.length : Int) - u * (ys.length : Int) ≤ 9 := by
  obtain ⟨_, _, _, e, e1, e2, _⟩ := told_false h.h hf hf' hu hu' hl
  omega
theorem two_bits {n : Nat} (h : n ≤ 9) : PySem.Builtin.Int.intBits ((2 : Int) ^ n) ≤ 10 :=
  bits_of (Int.le_of_lt (two_pos n)) (Int.lt_of_le_of_lt (pow_le (y := 9) (by decide) h) (by decide))
theorem one_bits : PySem.Builtin.Int.intBits (1 : Int) ≤ 10 := by decide +kernel
theorem ok_row {b : Int} (h : CBf f u pad xs (some ys)) (hf : 1 ≤ f) (hf' : f ≤ 9) (hu : 1 ≤ u) (hu' : u ≤ 9) (hl : xs.length ≤ 7) (hb : PySem.Builtin.Int.intBits b ≤ 10) : IntMulOk (val (2 ^ f.toNat) xs) b := by
  obtain ⟨a, _, _⟩ := told_any h hf hf' hu hu' hl
  obtain ⟨p1, p2⟩ := pow_bounds hf hf'
  exact IntMulOk.of_le (m := 900) (n := 10) (val_bits (n := 0) (by omega) p2 a (by omega)) hb (by decide)
theorem ok_told {b : Int} (h : CBf f u pad xs (some ys)) (hf : 1 ≤ f) (hf' : f ≤ 9) (hu : 1 ≤ u) (hu' : u ≤ 9) (hl : xs.length ≤ 7) (hb : PySem.Builtin.Int.intBits b ≤ 10) : IntMulOk (val (2 ^ u.toNat) ys) b := by
  obtain ⟨_, a, c⟩ := told_any h hf hf' hu hu' hl
  obtain ⟨p1, p2⟩ := pow_bounds hu hu'
  exact IntMulOk.of_le (m := 900) (n := 10) (val_bits (n := 0) (by omega) p2 a c) hb (by decide)
theorem bits_true (h : CBf f u true xs (some ys)) (hf : 1 ≤ f) (hf' : f ≤ 9) (hu : 1 ≤ u) (hu' : u ≤ 9) (hl : xs.length ≤ 7) : PySem.Builtin.Int.intBits ((2:Int) ^ (u * (ys.length : Int) - f * (xs.length : Int)).toNat) ≤ 10 := by
  have := exp_true h hf hf' hu hu' hl
  exact two_bits (by omega)
theorem bits_false (h : CBf f u false xs (some ys)) (hf : 1 ≤ f) (hf' : f ≤ 9) (hu : 1 ≤ u) (hu' : u ≤ 9) (hl : xs.length ≤ 7) : PySem.Builtin.Int.intBits ((2:Int) ^ (f * (xs.length : Int) - u * (ys.length : Int)).toNat) ≤ 10 := by
  have := exp_false h hf hf' hu hu' hl
  exact two_bits (by omega)
theorem end_true (h : CBf f u true xs (some ys)) (hf : 1 ≤ f) (hf' : f ≤ 9) (hu : 1 ≤ u) (hu' : u ≤ 9) (hl : xs.length ≤ 7)
    (a : val (2 ^ u.toNat) ys * 1 ≠ val (2 ^ f.toNat) xs * 2 ^ (u * (ys.length : Int) - f * (xs.length : Int)).toNat) : False := by
  obtain ⟨_, _, _, e, h1, _, h2⟩ := told_true h.h hf hf' hu hu' hl
  have e1 : (u * (ys.length : Int) - f * (xs.length : Int)).toNat = e := by omega
  rw [e1, Int.mul_one] at a; exact a h2
theorem end_false (h : CBf f u false xs (some ys)) (hf : 1 ≤ f) (hf' : f ≤ 9) (hu : 1 ≤ u) (hu' : u ≤ 9) (hl : xs.length ≤ 7)
    (a : val (2 ^ u.toNat) ys * 2 ^ (f * (xs.length : Int) - u * (ys.length : Int)).toNat ≠ val (2 ^ f.toNat) xs * 1) : False := by
  obtain ⟨_, _, _, e, h1, _, h2⟩ := told_false h.h hf hf' hu hu' hl
  have e1 : (f * (xs.length : Int) - u * (ys.length : Int)).toNat = e := by omega
  rw [e1, Int.mul_one] at a; exact a h2.symm
end
section
variable {prog : Program} {w : World} {A : Around} {E : Value → Shared → Prop} {s : Shared} {t v : Tok} {Q : Value → Shared → Prop} {n : Int}
theorem pow_plain (h0 : 0 ≤ n) (h1 : n ≤ 9) (h : Q (.int ((2:Int) ^ n.toNat) s.toks) { s with toks := s.toks + 1 }) : wpAny (model prog w) A (binaryOp .Pow (.int 2 t) (.int n v)) Q E s :=
  pow_int_small h0 (by omega) (by decide) h
theorem len_told {l : Addr} {vs : List Value} {f u : Int} {pad : Bool} {xs ys : List Int} (hl : s.heap.IsList l vs.toArray) (hi : IntsAre vs ys) (hc : CBf f u pad xs (some ys)) (hf : 1 ≤ f) (hf' : f ≤ 9) (hu : 1 ≤ u) (hu' : u ≤ 9) (hx : xs.length ≤ 7)
    (h : Q (.int (ys.length : Int) (s.toks + 1)) { s with toks := s.toks + 1 + 1 }) : wpAny (model prog w) A (call (.builtin "len") [.ref l]) Q E s := by
  have e : vs.toArray.size = ys.length := by rw [List.size_toArray]; exact IntsAre.length hi
  have hb := (told_any hc hf hf' hu hu' hx).2.2
  exact PyProof.Rows.len_list hl (by rw [e]; omega) (by rw [e]; exact h)
end
end Mine
end
section
example : True := by
  w_top off
  trivial
open PySem PySem.W PyProof.Rows PySem.Calls
namespace Mine
section
variable {prog : Program} {w : World} {A : Around} {E : Value → Shared → Prop} {s : Shared} {b c : Array UInt8} {t u : Tok} {ks ls : List Int} {Q : Value → Shared → Prop} {value slice : PySem.Expr} {h₀ : Heap} {L : Addr} {m : PySem.Str → Option Value} {news : List (Addr × Obj)}
theorem cut_from {n : Nat} {ui : Tok} (hF : Fr h₀ L s.heap m) (hN : News h₀ L s.heap news) (hk : KBw.bInts b = ks) (hz : ks.length ≤ 100) (hn : n ≤ ks.length)
    (h : ∀ c h' t' k, Fr h₀ L h' m → News h₀ L h' news → KBw.bInts c = ks.drop n → Q (.bytes c t') { s with heap := h', toks := k })
    (hs : subscripted slice false (.bytes b t) (.ref s.heap.objs.size) = operate [.ref s.heap.objs.size, .bytes b t] (getItem (.bytes b t) (.ref s.heap.objs.size)) := by with_unfolding_all rfl)
    (ht : ∀ r, letTemporaryGo value (.bytes b t) r = pure () := by intro _; with_unfolding_all rfl) :
    wpAny (model prog w) A (subscriptTail value slice (.bytes b t) (.ref s.heap.objs.size)) Q E { s with heap := s.heap.push { cls := .type "slice", data := .fields #[.int (n : Int) ui, .none, .none] } } :=
  KBc.slice_K hF hN hk (.int (n : Int) ui) .none (by omega) (fun h' t' k F' N' e' => h _ _ _ _ F' N' (e'.trans (by
    show (ks.drop (clipAt ks.length (n : Int))).take (ks.length - clipAt ks.length (n : Int)) = ks.drop n
    have e : clipAt ks.length (n : Int) = n := by rw [clip_of (by omega)]; omega
    rw [e, List.take_of_length_le (by rw [List.length_drop]; exact Nat.le_refl _)]))) hs ht
theorem ne_no (hb : KBw.bInts b = ks) (hc : KBw.bInts c = ks) (h : Q (.bool false) s) : wpAny (model prog w) A (compareOp .NotEq (.bytes b t) (.bytes c u)) Q E s := by
  refine ne_K hb hc ?_
  rw [decide_eq_true (rfl : ks = ks)]; exact h
end
end Mine
end
section
example : True := by
  w_top off
  trivial
open PySem PySem.W PyProof.Rows
namespace Mine
example : PySem.Challenge.rw_vn0015_01 = PySem.Challenge.rw_vn0015_01 ∧ Mine.hd.heap_39 = Mine.hd.heap_39 := by
  k_fill
  exact ⟨rfl, rfl⟩


/-- a def's record, read off the top -/
theorem of_def {P : List Stmt → Scope → Prop} {K : Frag} {f : Addr} {oc : Value} {od : Option Addr} {osl : Array (Option Value)} {name qual : PySem.Str} {params : Arguments} {b : List Stmt} {sc : Scope} {dV kV doc pm cdv ct : Value} {an : Option Addr}
    (e : K.lookup f = some ⟨oc, od, .func (fnOf name qual params b sc dV kV doc pm an cdv ct), osl⟩) (h : P b sc) :
    ∀ {oc' : Value} {od' : Option Addr} {osl' : Array (Option Value)} {name' qual' : PySem.Str} {params' : Arguments} {b' : List Stmt} {sc' : Scope} {dV' kV' doc' pm' cdv' ct' : Value} {an' : Option Addr},
      K.lookup f = some ⟨oc', od', .func (fnOf name' qual' params' b' sc' dV' kV' doc' pm' an' cdv' ct'), osl'⟩ → P b' sc' := by
  intro oc' od' osl' name' qual' params' b' sc' dV' kV' doc' pm' cdv' ct' an' e'
  rw [e] at e'
  injection e' with e'
  injection e' with _ _ e' _
  injection e' with e'
  injection e' with _ _ _ e1 e2
  injection e1 with e1; subst e1; subst e2; exact h
theorem fr_put {h₀ h : Heap} {L : Addr} {m : PySem.Str → Option Value} {x : PySem.Str} {v : Value} (e : m x = some v) (F : Fr h₀ L h m) : Fr h₀ L h (fun y => if y = x then some v else m y) := by
  have e' : (fun y => if y = x then some v else m y) = m := by
    funext y
    by_cases hy : y = x
    · subst hy; rw [if_pos rfl, e]
    · rw [if_neg hy]
  rw [e']; exact F
theorem fr_put2 {h₀ h : Heap} {L : Addr} {m : PySem.Str → Option Value} {x y : PySem.Str} {v1 v2 : Value} (e1 : m x = some v1) (e2 : m y = some v2) (F : Fr h₀ L h m) : Fr h₀ L h (fun k => if k = x then some v1 else if k = y then some v2 else m k) := by
  have e' : (fun k => if k = x then some v1 else if k = y then some v2 else m k) = m := by
    funext k
    by_cases h1 : k = x
    · subst h1; rw [if_pos rfl, e1]
    · rw [if_neg h1]
      by_cases h2 : k = y
      · subst h2; rw [if_pos rfl, e2]
      · rw [if_neg h2]
  rw [e']; exact F
theorem fr_put3 {h₀ h : Heap} {L : Addr} {m : PySem.Str → Option Value} {x y z : PySem.Str} {v1 v2 v3 : Value} (e1 : m x = some v1) (e2 : m y = some v2) (e3 : m z = some v3) (F : Fr h₀ L h m) : Fr h₀ L h (fun k => if k = x then some v1 else if k = y then some v2 else if k = z then some v3 else m k) := by
  have e' : (fun k => if k = x then some v1 else if k = y then some v2 else if k = z then some v3 else m k) = m := by
    funext k
    by_cases h1 : k = x
    · subst h1; rw [if_pos rfl, e1]
    · rw [if_neg h1]
      by_cases h2 : k = y
      · subst h2; rw [if_pos rfl, e2]
      · rw [if_neg h2]
        by_cases h3 : k = z
        · subst h3; rw [if_pos rfl, e3]
        · rw [if_neg h3]
  rw [e']; exact F
theorem getD0 {a b c d e : Int} : [a, b, c, d, e].getD (Int.toNat 0) 0 = a := rfl
theorem getD1 {a b c d e : Int} : [a, b, c, d, e].getD (Int.toNat 1) 0 = b := rfl
def Stop (P : Prop) : Prop := P
theorem Stop.go {P : Prop} (h : Stop P) : P := h
theorem bytes_own {prog : Program} {w : World} {A : Around} {E : Value → Shared → Prop} {s : Shared} {h₀ : Heap} {L D : Addr} {m : PySem.Str → Option Value} {news : List (Addr × Obj)} {vs : List Value} {ns : List Int} {Q : Value → Shared → Prop}
    (F : Fr h₀ L s.heap m) (N : News h₀ L s.heap news) (hA : A.handled = none) (hl : s.heap.IsList D vs.toArray) (hi : IntsAre vs ns) (hr : Figs 256 ns) (hz : ns.length ≤ 12)
    (h : ∀ (b : Array UInt8) h' t' k, KBw.bInts b = ns → Fr h₀ L h' m → News h₀ L h' news → Q (.bytes b t') { s with heap := h', toks := k }) : wpAny (model prog w) A (call (.type "bytes") [.ref D]) Q E s :=
  KBa.make_K F N hA hl hi hr (by omega) fun h' t' k F' N' _ => h _ h' t' k (KBa.ints_make hr) F' N'
/-- the octets' figures -/
theorem oct_figs {n : Int} {g : Int → Int} {z : Int} (h1 : z < 9) (hg : ∀ k, 0 ≤ k → k < z → 0 ≤ g k ∧ g k < 256) : Figs 256 ((List.replicate n.toNat [(0 : Int)]).flatten ++ List.map g (rangeKs 0 (z - 0).toNat)) := by
  intro x hx
  rcases List.mem_append.mp hx with q | q
  · obtain ⟨l, hl, hxl⟩ := List.mem_flatten.mp q
    rw [List.eq_of_mem_replicate hl] at hxl
    rw [List.mem_singleton.mp hxl]; decide
  · obtain ⟨k, hk, rfl⟩ := List.mem_map.mp q
    have := mem_rangeKs hk
    exact hg k (by omega) (by omega)
theorem flat0 (n : Nat) : (List.replicate n [(0 : Int)]).flatten = List.replicate n 0 := by
  induction n with
  | zero => rfl
  | succ n ih => rw [List.replicate_succ, List.replicate_succ, List.flatten_cons, ih]; rfl
theorem oct_len {n : Int} {g : Int → Int} {z : Int} (h0 : n < 4) (h1 : z < 9) : ((List.replicate n.toNat [(0 : Int)]).flatten ++ List.map g (rangeKs 0 (z - 0).toNat)).length ≤ 12 := by
  rw [flat0, List.length_append, List.length_replicate, List.length_map, rangeKs_length]; omega
theorem oct_val {n : Int} {g : Int → Int} {z : Int} (h1 : z < 9) (hf : Figs 256 ((List.replicate n.toNat [(0 : Int)]).flatten ++ List.map g (rangeKs 0 (z - 0).toNat))) :
    PySem.Flt.Hid (val 256 ((List.replicate n.toNat [(0 : Int)]).flatten ++ List.map g (rangeKs 0 (z - 0).toNat)) < 2 ^ 64) := by
  rw [flat0] at hf ⊢
  rw [val_zeros_app]
  have h := (val_range (B := 256) (by decide) hf.right).2
  rw [List.length_map, rangeKs_length] at h
  have h2 : (256 : Int) ^ (z - 0).toNat ≤ 256 ^ 8 := pow_le (by decide) (by omega)
  exact ⟨Int.lt_of_lt_of_le h (Int.le_trans h2 (show (256 : Int) ^ 8 ≤ 2 ^ 64 by decide))⟩
def LG1 (b : List Stmt) (sc : Scope) : Prop :=
  ∀ {w : World} {dp un : Nat} {gd : Option (List Code)} {a : Addr} {ccd : Value} {outer : List Env} {A₀ : Around} {base h₀ : Heap} {L : Addr} {m : PySem.Str → Option Value} {s : Shared} {Q : Flow → Shared → Prop}
    {p : Program} {loose : List PySem.Str} {mean : ExcName → Option Value} {mg mb : PySem.Str → Option Value} {D : Addr} {vs : List Value} {d0 d1 d2 d3 d4 : Int} {o1 o2 : Obj} {n0 : Nat},
    Below A₀ base outer h₀ → Fr h₀ L s.heap m → (Mine.hd.heap_39 w.params).In h₀ → News h₀ L s.heap [(D, ({ cls := .type "list", data := .seq vs.toArray n0 } : Obj)), (L + 1 + 1, o2), (L + 1, o1)] → Top p loose mean mg mb h₀ →
    dp + 100 < recursionLimit → un + 1000 < cLine →
    o1.data = .cell (some (.ref D)) → o2.data = .cell none → IntsAre vs [d0, d1, d2, d3, d4] → (∀ h' tk', (∃ m', Fr h₀ L h' m') → Q (.ret (.bool true)) { s with heap := h', toks := tk' }) →
    wpAny (model PySem.Challenge.pw_vn0015_01 w) (ktrTop dp un gd (PySem.Str.ofString "law") sc L a ccd (cellsFrom (L + 1) sc.names []) outer) (execs (b.drop 1) (envOfC (PySem.Str.ofString "law") sc L a ccd)) Q (fun _ _ => False) s
def LG2 (b : List Stmt) (sc : Scope) : Prop :=
  ∀ {w : World} {dp un : Nat} {gd : Option (List Code)} {a : Addr} {ccd : Value} {outer : List Env} {A₀ : Around} {base h₀ : Heap} {L : Addr} {m : PySem.Str → Option Value} {s : Shared} {Q : Flow → Shared → Prop}
    {p : Program} {loose : List PySem.Str} {mean : ExcName → Option Value} {mg mb : PySem.Str → Option Value} {D : Addr} {vs : List Value} {d0 d1 d2 d3 d4 : Int} {o1 o2 : Obj} {n0 : Nat} {bo : Array UInt8} {to : Tok} {ks : List Int},
    Below A₀ base outer h₀ → Fr h₀ L s.heap m → (Mine.hd.heap_39 w.params).In h₀ → News h₀ L s.heap [(D, ({ cls := .type "list", data := .seq vs.toArray n0 } : Obj)), (L + 1 + 1, o2), (L + 1, o1)] → Top p loose mean mg mb h₀ →
    dp + 100 < recursionLimit → un + 1000 < cLine →
    o1.data = .cell (some (.ref D)) → o2.data = .cell none → IntsAre vs [d0, d1, d2, d3, d4] → (∀ h' tk', (∃ m', Fr h₀ L h' m') → Q (.ret (.bool true)) { s with heap := h', toks := tk' }) →
    m (PySem.Str.ofString "octets") = some (.bytes bo to) → KBw.bInts bo = ks → ks.length ≤ 12 → Figs 256 ks → PySem.Flt.Hid (val 256 ks < 2 ^ 64) →
    wpAny (model PySem.Challenge.pw_vn0015_01 w) (ktrTop dp un gd (PySem.Str.ofString "law") sc L a ccd (cellsFrom (L + 1) sc.names []) outer) (execs (b.drop 3) (envOfC (PySem.Str.ofString "law") sc L a ccd)) Q (fun _ _ => False) s
def LG3 (b : List Stmt) (sc : Scope) : Prop :=
  ∀ {w : World} {dp un : Nat} {gd : Option (List Code)} {a : Addr} {ccd : Value} {outer : List Env} {A₀ : Around} {base h₀ : Heap} {L : Addr} {m : PySem.Str → Option Value} {s : Shared} {Q : Flow → Shared → Prop}
    {p : Program} {loose : List PySem.Str} {mean : ExcName → Option Value} {mg mb : PySem.Str → Option Value} {D : Addr} {vs : List Value} {d0 d1 d2 d3 d4 : Int} {o1 o2 : Obj} {n0 : Nat} {bo : Array UInt8} {to : Tok} {ks : List Int} {tn ta : Tok},
    Below A₀ base outer h₀ → Fr h₀ L s.heap m → (Mine.hd.heap_39 w.params).In h₀ → News h₀ L s.heap [(D, ({ cls := .type "list", data := .seq vs.toArray n0 } : Obj)), (L + 1 + 1, o2), (L + 1, o1)] → Top p loose mean mg mb h₀ →
    dp + 100 < recursionLimit → un + 1000 < cLine →
    o1.data = .cell (some (.ref D)) → o2.data = .cell none → IntsAre vs [d0, d1, d2, d3, d4] → (∀ h' tk', (∃ m', Fr h₀ L h' m') → Q (.ret (.bool true)) { s with heap := h', toks := tk' }) →
    m (PySem.Str.ofString "octets") = some (.bytes bo to) → KBw.bInts bo = ks → ks.length ≤ 12 → Figs 256 ks → PySem.Flt.Hid (val 256 ks < 2 ^ 64) →
    m (PySem.Str.ofString "number") = some (.int (val 256 ks) tn) → m (PySem.Str.ofString "ahead") = some (.int (lead ks : Int) ta) →
    wpAny (model PySem.Challenge.pw_vn0015_01 w) (ktrTop dp un gd (PySem.Str.ofString "law") sc L a ccd (cellsFrom (L + 1) sc.names []) outer) (execs (b.drop 6) (envOfC (PySem.Str.ofString "law") sc L a ccd)) Q (fun _ _ => False) s
def LG4 (b : List Stmt) (sc : Scope) : Prop :=
  ∀ {w : World} {dp un : Nat} {gd : Option (List Code)} {a : Addr} {ccd : Value} {outer : List Env} {A₀ : Around} {base h₀ : Heap} {L : Addr} {m : PySem.Str → Option Value} {s : Shared} {Q : Flow → Shared → Prop}
    {p : Program} {loose : List PySem.Str} {mean : ExcName → Option Value} {mg mb : PySem.Str → Option Value} {D : Addr} {vs : List Value} {d0 d1 d2 d3 d4 : Int} {o1 o2 : Obj} {n0 : Nat} {bo : Array UInt8} {to : Tok} {ks : List Int} {tn ta : Tok},
    Below A₀ base outer h₀ → Fr h₀ L s.heap m → (Mine.hd.heap_39 w.params).In h₀ → News h₀ L s.heap [(D, ({ cls := .type "list", data := .seq vs.toArray n0 } : Obj)), (L + 1 + 1, o2), (L + 1, o1)] → Top p loose mean mg mb h₀ →
    dp + 100 < recursionLimit → un + 1000 < cLine →
    o1.data = .cell (some (.ref D)) → o2.data = .cell none → IntsAre vs [d0, d1, d2, d3, d4] → (∀ h' tk', (∃ m', Fr h₀ L h' m') → Q (.ret (.bool true)) { s with heap := h', toks := tk' }) →
    m (PySem.Str.ofString "octets") = some (.bytes bo to) → KBw.bInts bo = ks → ks.length ≤ 12 → Figs 256 ks → PySem.Flt.Hid (val 256 ks < 2 ^ 64) →
    m (PySem.Str.ofString "number") = some (.int (val 256 ks) tn) → m (PySem.Str.ofString "ahead") = some (.int (lead ks : Int) ta) →
    wpAny (model PySem.Challenge.pw_vn0015_01 w) (ktrTop dp un gd (PySem.Str.ofString "law") sc L a ccd (cellsFrom (L + 1) sc.names []) outer) (execs (b.drop 10) (envOfC (PySem.Str.ofString "law") sc L a ccd)) Q (fun _ _ => False) s
def LG5 (b : List Stmt) (sc : Scope) : Prop :=
  ∀ {w : World} {dp un : Nat} {gd : Option (List Code)} {a : Addr} {ccd : Value} {outer : List Env} {A₀ : Around} {base h₀ : Heap} {L : Addr} {m : PySem.Str → Option Value} {s : Shared} {Q : Flow → Shared → Prop}
    {p : Program} {loose : List PySem.Str} {mean : ExcName → Option Value} {mg mb : PySem.Str → Option Value} {D : Addr} {vs : List Value} {d0 d1 d2 d3 d4 : Int} {o1 o2 : Obj} {n0 : Nat} {bo : Array UInt8} {to : Tok} {ks : List Int} {tn ta : Tok},
    Below A₀ base outer h₀ → Fr h₀ L s.heap m → (Mine.hd.heap_39 w.params).In h₀ → News h₀ L s.heap [(D, ({ cls := .type "list", data := .seq vs.toArray n0 } : Obj)), (L + 1 + 1, o2), (L + 1, o1)] → Top p loose mean mg mb h₀ →
    dp + 100 < recursionLimit → un + 1000 < cLine →
    o1.data = .cell (some (.ref D)) → o2.data = .cell none → IntsAre vs [d0, d1, d2, d3, d4] → (∀ h' tk', (∃ m', Fr h₀ L h' m') → Q (.ret (.bool true)) { s with heap := h', toks := tk' }) →
    m (PySem.Str.ofString "octets") = some (.bytes bo to) → KBw.bInts bo = ks → ks.length ≤ 12 → Figs 256 ks → PySem.Flt.Hid (val 256 ks < 2 ^ 64) →
    m (PySem.Str.ofString "number") = some (.int (val 256 ks) tn) → m (PySem.Str.ofString "ahead") = some (.int (lead ks : Int) ta) →
    wpAny (model PySem.Challenge.pw_vn0015_01 w) (ktrTop dp un gd (PySem.Str.ofString "law") sc L a ccd (cellsFrom (L + 1) sc.names []) outer) (execs (b.drop 13) (envOfC (PySem.Str.ofString "law") sc L a ccd)) Q (fun _ _ => False) s
def LG6 (b : List Stmt) (sc : Scope) : Prop :=
  ∀ {w : World} {dp un : Nat} {gd : Option (List Code)} {a : Addr} {ccd : Value} {outer : List Env} {A₀ : Around} {base h₀ : Heap} {L : Addr} {m : PySem.Str → Option Value} {s : Shared} {Q : Flow → Shared → Prop}
    {p : Program} {loose : List PySem.Str} {mean : ExcName → Option Value} {mg mb : PySem.Str → Option Value} {D : Addr} {vs : List Value} {d0 d1 d2 d3 d4 : Int} {o1 o2 : Obj} {n0 : Nat},
    Below A₀ base outer h₀ → Fr h₀ L s.heap m → (Mine.hd.heap_39 w.params).In h₀ → News h₀ L s.heap [(D, ({ cls := .type "list", data := .seq vs.toArray n0 } : Obj)), (L + 1 + 1, o2), (L + 1, o1)] → Top p loose mean mg mb h₀ →
    dp + 100 < recursionLimit → un + 1000 < cLine →
    o1.data = .cell (some (.ref D)) → o2.data = .cell none → IntsAre vs [d0, d1, d2, d3, d4] → (∀ h' tk', (∃ m', Fr h₀ L h' m') → Q (.ret (.bool true)) { s with heap := h', toks := tk' }) →
    wpAny (model PySem.Challenge.pw_vn0015_01 w) (ktrTop dp un gd (PySem.Str.ofString "law") sc L a ccd (cellsFrom (L + 1) sc.names []) outer) (execs (b.drop 15) (envOfC (PySem.Str.ofString "law") sc L a ccd)) Q (fun _ _ => False) s
def LG7 (b : List Stmt) (sc : Scope) : Prop :=
  ∀ {w : World} {dp un : Nat} {gd : Option (List Code)} {a : Addr} {ccd : Value} {outer : List Env} {A₀ : Around} {base h₀ : Heap} {L : Addr} {m : PySem.Str → Option Value} {s : Shared} {Q : Flow → Shared → Prop}
    {p : Program} {loose : List PySem.Str} {mean : ExcName → Option Value} {mg mb : PySem.Str → Option Value} {D : Addr} {vs : List Value} {d0 d1 d2 d3 d4 : Int} {o1 o2 : Obj} {n0 : Nat} {wd nr : Int} {tw tr : Tok} {R : Addr} {rv : List Value} {rn : Nat} {rs : List Int},
    Below A₀ base outer h₀ → Fr h₀ L s.heap m → (Mine.hd.heap_39 w.params).In h₀ → News h₀ L s.heap [(R, ({ cls := .type "list", data := .seq rv.toArray rn } : Obj)), (D, ({ cls := .type "list", data := .seq vs.toArray n0 } : Obj)), (L + 1 + 1, o2), (L + 1, o1)] → Top p loose mean mg mb h₀ →
    dp + 100 < recursionLimit → un + 1000 < cLine →
    o1.data = .cell (some (.ref D)) → o2.data = .cell (some (.int wd tw)) → IntsAre vs [d0, d1, d2, d3, d4] → (∀ h' tk', (∃ m', Fr h₀ L h' m') → Q (.ret (.bool true)) { s with heap := h', toks := tk' }) →
    m (PySem.Str.ofString "row") = some (.ref R) → m (PySem.Str.ofString "narrow") = some (.int nr tr) → 1 ≤ wd → wd ≤ 9 → 1 ≤ nr → nr ≤ 9 → IntsAre rv rs → rs.length ≤ 7 → (∀ x ∈ rs, 0 ≤ x) →
    wpAny (model PySem.Challenge.pw_vn0015_01 w) (ktrTop dp un gd (PySem.Str.ofString "law") sc L a ccd (cellsFrom (L + 1) sc.names []) outer) (execs (b.drop 17) (envOfC (PySem.Str.ofString "law") sc L a ccd)) Q (fun _ _ => False) s
end Mine
end
section
example : True := by
  w_top off
  trivial
open PySem PySem.W PyProof.Rows
namespace Mine
example : PySem.Challenge.rw_vn0015_01 = PySem.Challenge.rw_vn0015_01 ∧ Mine.hd.heap_39 = Mine.hd.heap_39 := by
  k_fill
  exact ⟨rfl, rfl⟩

local macro_rules | `(tactic| k_memK) => `(tactic| assumption)
local macro_rules | `(tactic| kst_facts1) => `(tactic| first | exact IntsAre.nil | exact IntsAre.append (by with_reducible assumption) (.cons _ _ .nil) | with_reducible assumption | exact PyProof.Rows.StrsAre.nil | exact PyProof.Rows.StrsAre.append' (by with_reducible assumption) (.cons _ _ .nil))
local macro_rules | `(tactic| walk_at "call ref") => `(tactic| (k_here; (with_reducible show wpAny _ _ (call (Value.ref _) [Value.bytes _ _, Value.str _ _]) _ _ _); k_dflt (refine call_from (by k_asm) (by k_mem) (by assumption) (by omega) ?_); intro _ _))
local macro_rules | `(tactic| cell_enter) => `(tactic| (refine' code_def ?k1 ?k2 ?k3 ?k4 ?k5 ?kA ?kF ?kK ?k6 ?k7 ?k8 ?k9 ?kB ?_ ?c2 ?c3 ?c4 ?c5; (case kA => exact rfl); (case kF => exact rfl); (case kK => first | assumption | exact rfl); (case k1 => k_asm); (case k2 => k_asm); (case k3 => k_asm); (case k4 => k_asm); (case k5 => k_asm); (case k6 => k_is); (case k7 => k_is); (case k8 => ktr_room); (case k9 => first | exact BindsTo.of_eq rfl | exact binds_K (by k_in) rfl (by k_is) rfl rfl rfl); (case c5 => decide); (case kB => exact locs rfl); (case c2 => exact rfl); (case c3 => exact rfl); (case c4 => exact rfl); k_whole; intro g' L' h' FG' F' N' B' X' T'; (try dsimp only); (try k_lift B'); (try k_fold)))
local macro_rules | `(tactic| walk_at "call ref") => `(tactic| (k_here; (with_reducible show wpAny _ _ (call (Value.ref _) _) _ _ _); (refine wpAny_call ?_); k_dflt cell_enter))
local macro_rules | `(tactic| walk_at "getAttr int") => `(tactic| (k_here; (refine int_class ?_); intro _))
local macro_rules | `(tactic| walk_at "call builtin:hasattr") => `(tactic| (k_here; k_dflt (refine has_missF (by k_asm) (by k_asm) (by rfl) ?_); intro h' tk' F' N'; (try k_sweep)))
local macro_rules | `(tactic| walk_at "binaryOp Mod int int") => `(tactic| (k_here; (with_reducible refine mod_pos (by omega) ?_); intro _ _))
local macro_rules | `(tactic| walk_at "binaryOp FloorDiv int int") => `(tactic| (k_here; (with_reducible refine fdiv_small (by omega) (by omega) ?_); intro hq; (try (replace hq := hq (by omega)))))
local macro_rules | `(tactic| walk_at "binaryOp Pow int int") => `(tactic| (k_here; first | ((with_reducible refine pow2_f (by omega) (by omega) ?_); intro _ _) | ((with_reducible refine pow_f 2 (by omega) (by omega) (by omega) (by omega) (by omega) (by decide) ?_); intro _ _) | ((with_reducible refine pow_f 6 (by omega) (by omega) (by omega) (by omega) (by omega) (by decide) ?_); intro _ _)))
local macro_rules | `(tactic| walk_at "subscriptTail Name Constant ref int") => `(tactic| (k_here; (with_unfolding_all refine' item_list_ints ?k1 ?k2 ?k3 ?k4 ?k5 ?_); (case k1 => is_list); (case k2 => assumption); (case k3 => omega); (case k4 => (show _ < (5 : Int); omega)); (case k5 => omega); intro _; simp only [getD0, getD1]))
local macro_rules | `(tactic| walk_at "subscriptTail Name BinOp ref int") => `(tactic| (k_here; (with_unfolding_all refine' item_list_ints ?k1 ?k2 ?k3 ?k4 ?k5 ?_); (case k1 => is_list); (case k2 => assumption); (case k3 => omega); (case k4 => (show _ < (5 : Int); omega)); (case k5 => omega); intro _))
local macro_rules | `(tactic| walk_at "eval ListComp") => `(tactic| (k_here; (with_reducible show wpAny _ _ (eval (Expr.ListComp (Expr.BinOp _ _ _ _) _ _ _) _) _ _ _); k_dflt (lcf_look; lcg_calm; (refine LCg.ListComp_U (F₀ := by k_asm) (by with_unfolding_all rfl) (by decide) (by rfl) (by decide) (by rfl) ?_); lcg_toSrc)))
local macro_rules | `(tactic| walk_at "execs cons") => `(tactic| (k_here; (with_reducible show wpAny _ _ (execs (Stmt.Assign [Expr.Name (PySem.Str.ofString "number") _] _ _ :: _) _) _ _ _); walk_say "STOP"; refine Stop.go ?_))
local macro_rules | `(tactic| walk_at "call type:bytes") => `(tactic| (k_here; (with_reducible show wpAny _ _ (call (Value.type "bytes") [Value.ref _]) _ _ _); k_dflt (refine' bytes_own ?kF ?kN ?kh ?kl ?ki ?kr ?kz ?_; (case kF => k_asm); (case kN => k_asm); (case kh => rfl); (case kl => is_list); (case ki => assumption); (case kr => (refine oct_figs (by omega) fun k hk0 hk1 => ?_; split <;> omega)); (case kz => exact oct_len (by omega) (by omega))); intro b1 h1 t1 k1 hb1 F1 N1; (try k_fold)))

set_option maxHeartbeats 4000000 in
theorem law_1 {w : World} {oc' : Value} {od' : Option Addr} {osl' : Array (Option Value)} {name' qual' : PySem.Str} {params' : Arguments} {b' : List Stmt} {sc' : Scope} {dV' kV' doc' pm' cdv' ct' : Value} {an' : Option Addr}
    (e : (Mine.hd.heap_39 w.params).lookup 526 = some ⟨oc', od', .func (fnOf name' qual' params' b' sc' dV' kV' doc' pm' an' cdv' ct'), osl'⟩) (hn : LG2 b' sc') : LG1 b' sc' := by
  revert hn; refine' of_def (P := fun b sc => LG2 b sc → LG1 b sc) ?kE ?_ e
  case kE => k_is
  intro hn w dp un gd a ccd outer A₀ base h₀ L m s Q p loose mean mg mb D vs d0 d1 d2 d3 d4 o1 o2 n0  Bl F X N T hd hu c1 c2 hI hret
  dsimp only [List.drop]
  try k_fold
  iterate 95 (focus (try (first | (k_unfold; (try dsimp only)) | (k_end; wrow_close) | walk1 | (dsimp only; walk1) | (leave1; walk_say "STEP leave1"; try dsimp only) | fail "no step")))
  all_goals unfold Stop
  all_goals (refine hn Bl (by assumption) X (cb_drop (by assumption) (by intro p hp; simp only [List.mem_cons, List.not_mem_nil, or_false] at hp; rcases hp with rfl | rfl | rfl <;> (repeat (first | exact List.Mem.head _ | refine List.Mem.tail _ ?_)))) T hd hu c1 c2 hI hret (by (repeat (first | exact if_pos rfl | refine (if_neg (by decide)).trans ?_))) (by assumption) (oct_len (by omega) (by omega)) (oct_figs (by omega) fun k hk0 hk1 => ?_) (oct_val (by omega) (oct_figs (by omega) fun k hk0 hk1 => ?_)))
  all_goals (split <;> omega)
end Mine
end
section
example : True := by
  w_top off
  trivial
local macro_rules | `(tactic| walk_at "no such word") => `(tactic| fail "none")
local macro_rules | `(tactic| walk_at "no such word") => `(tactic| fail "none")
local macro_rules | `(tactic| walk_at "no such word") => `(tactic| fail "none")
local macro_rules | `(tactic| walk_at "no such word") => `(tactic| fail "none")
local macro_rules | `(tactic| walk_at "no such word") => `(tactic| fail "none")
local macro_rules | `(tactic| walk_at "no such word") => `(tactic| fail "none")
local macro_rules | `(tactic| walk_at "no such word") => `(tactic| fail "none")
local macro_rules | `(tactic| walk_at "no such word") => `(tactic| fail "none")
local macro_rules | `(tactic| walk_at "no such word") => `(tactic| fail "none")
local macro_rules | `(tactic| walk_at "no such word") => `(tactic| fail "none")
local macro_rules | `(tactic| walk_at "no such word") => `(tactic| fail "none")
local macro_rules | `(tactic| walk_at "no such word") => `(tactic| fail "none")
local macro_rules | `(tactic| walk_at "no such word") => `(tactic| fail "none")
local macro_rules | `(tactic| walk_at "no such word") => `(tactic| fail "none")
local macro_rules | `(tactic| walk_at "no such word") => `(tactic| fail "none")
local macro_rules | `(tactic| walk_at "no such word") => `(tactic| fail "none")
local macro_rules | `(tactic| walk_at "no such word") => `(tactic| fail "none")
local macro_rules | `(tactic| walk_at "no such word") => `(tactic| fail "none")
local macro_rules | `(tactic| walk_at "no such word") => `(tactic| fail "none")
local macro_rules | `(tactic| walk_at "no such word") => `(tactic| fail "none")
local macro_rules | `(tactic| walk_at "no such word") => `(tactic| fail "none")
local macro_rules | `(tactic| walk_at "no such word") => `(tactic| fail "none")
local macro_rules | `(tactic| walk_at "no such word") => `(tactic| fail "none")
local macro_rules | `(tactic| walk_at "no such word") => `(tactic| fail "none")
local macro_rules | `(tactic| walk_at "no such word") => `(tactic| fail "none")
local macro_rules | `(tactic| walk_at "no such word") => `(tactic| fail "none")
local macro_rules | `(tactic| walk_at "no such word") => `(tactic| fail "none")
local macro_rules | `(tactic| walk_at "no such word") => `(tactic| fail "none")
local macro_rules | `(tactic| walk_at "no such word") => `(tactic| fail "none")
local macro_rules | `(tactic| walk_at "no such word") => `(tactic| fail "none")
local macro_rules | `(tactic| walk_at "no such word") => `(tactic| fail "none")
local macro_rules | `(tactic| walk_at "no such word") => `(tactic| fail "none")
local macro_rules | `(tactic| walk_at "no such word") => `(tactic| fail "none")
local macro_rules | `(tactic| walk_at "no such word") => `(tactic| fail "none")
local macro_rules | `(tactic| walk_at "no such word") => `(tactic| fail "none")
local macro_rules | `(tactic| walk_at "no such word") => `(tactic| fail "none")
local macro_rules | `(tactic| walk_at "no such word") => `(tactic| fail "none")
local macro_rules | `(tactic| walk_at "no such word") => `(tactic| fail "none")
local macro_rules | `(tactic| walk_at "no such word") => `(tactic| fail "none")
local macro_rules | `(tactic| walk_at "no such word") => `(tactic| fail "none")
open PySem PySem.W PyProof.Rows
namespace Mine
example : PySem.Challenge.rw_vn0015_01 = PySem.Challenge.rw_vn0015_01 ∧ Mine.hd.heap_39 = Mine.hd.heap_39 := by
  k_fill
  exact ⟨rfl, rfl⟩

local macro_rules | `(tactic| k_memK) => `(tactic| assumption)
local macro_rules | `(tactic| kst_facts1) => `(tactic| first | exact IntsAre.nil | exact IntsAre.append (by with_reducible assumption) (.cons _ _ .nil) | with_reducible assumption | exact PyProof.Rows.StrsAre.nil | exact PyProof.Rows.StrsAre.append' (by with_reducible assumption) (.cons _ _ .nil))
local macro_rules | `(tactic| walk_at "call ref") => `(tactic| (k_here; (with_reducible show wpAny _ _ (call (Value.ref _) [Value.bytes _ _, Value.str _ _]) _ _ _); k_dflt (refine call_from (by k_asm) (by k_mem) (by assumption) (by omega) ?_); intro _ _))
local macro_rules | `(tactic| cell_enter) => `(tactic| (refine' code_def ?k1 ?k2 ?k3 ?k4 ?k5 ?kA ?kF ?kK ?k6 ?k7 ?k8 ?k9 ?kB ?_ ?c2 ?c3 ?c4 ?c5; (case kA => exact rfl); (case kF => exact rfl); (case kK => first | assumption | exact rfl); (case k1 => k_asm); (case k2 => k_asm); (case k3 => k_asm); (case k4 => k_asm); (case k5 => k_asm); (case k6 => k_is); (case k7 => k_is); (case k8 => ktr_room); (case k9 => first | exact BindsTo.of_eq rfl | exact binds_K (by k_in) rfl (by k_is) rfl rfl rfl); (case c5 => decide); (case kB => exact locs rfl); (case c2 => exact rfl); (case c3 => exact rfl); (case c4 => exact rfl); k_whole; intro g' L' h' FG' F' N' B' X' T'; (try dsimp only); (try k_lift B'); (try k_fold)))
local macro_rules | `(tactic| walk_at "call ref") => `(tactic| (k_here; (with_reducible show wpAny _ _ (call (Value.ref _) _) _ _ _); (refine wpAny_call ?_); k_dflt cell_enter))
local macro_rules | `(tactic| walk_at "getAttr int") => `(tactic| (k_here; (refine int_class ?_); intro _))
local macro_rules | `(tactic| walk_at "call builtin:hasattr") => `(tactic| (k_here; k_dflt (refine has_missF (by k_asm) (by k_asm) (by rfl) ?_); intro h' tk' F' N'; (try k_sweep)))
local macro_rules | `(tactic| walk_at "binaryOp Mod int int") => `(tactic| (k_here; (with_reducible refine mod_pos (by omega) ?_); intro _ _))
local macro_rules | `(tactic| walk_at "binaryOp FloorDiv int int") => `(tactic| (k_here; (with_reducible refine fdiv_small (by omega) (by omega) ?_); intro hq; (try (replace hq := hq (by omega)))))
local macro_rules | `(tactic| walk_at "binaryOp Pow int int") => `(tactic| (k_here; first | ((with_reducible refine pow2_f (by omega) (by omega) ?_); intro _ _) | ((with_reducible refine pow_f 2 (by omega) (by omega) (by omega) (by omega) (by omega) (by decide) ?_); intro _ _) | ((with_reducible refine pow_f 6 (by omega) (by omega) (by omega) (by omega) (by omega) (by decide) ?_); intro _ _)))
local macro_rules | `(tactic| walk_at "subscriptTail Name Constant ref int") => `(tactic| (k_here; (with_unfolding_all refine' item_list_ints ?k1 ?k2 ?k3 ?k4 ?k5 ?_); (case k1 => is_list); (case k2 => assumption); (case k3 => omega); (case k4 => (show _ < (5 : Int); omega)); (case k5 => omega); intro _; simp only [getD0, getD1]))
local macro_rules | `(tactic| walk_at "subscriptTail Name BinOp ref int") => `(tactic| (k_here; (with_unfolding_all refine' item_list_ints ?k1 ?k2 ?k3 ?k4 ?k5 ?_); (case k1 => is_list); (case k2 => assumption); (case k3 => omega); (case k4 => (show _ < (5 : Int); omega)); (case k5 => omega); intro _))
local macro_rules | `(tactic| walk_at "eval ListComp") => `(tactic| (k_here; (with_reducible show wpAny _ _ (eval (Expr.ListComp (Expr.BinOp _ _ _ _) _ _ _) _) _ _ _); k_dflt (lcf_look; lcg_calm; (refine LCg.ListComp_U (F₀ := by k_asm) (by with_unfolding_all rfl) (by decide) (by rfl) (by decide) (by rfl) ?_); lcg_toSrc)))
local macro_rules | `(tactic| walk_at "execs cons") => `(tactic| (k_here; (with_reducible show wpAny _ _ (execs (Stmt.Assign [Expr.Name (PySem.Str.ofString "groups") _] _ _ :: _) _) _ _ _); walk_say "STOP"; refine Stop.go ?_))
local macro_rules | `(tactic| walk_at "call ref") => `(tactic| (k_here; (with_reducible show wpAny _ _ (call (Value.ref 521) [Value.bytes _ _, Value.int _ _]) _ _ _); k_dflt (refine' value_bytes ?k1 ?k2 ?k3 ?k4 ?k5 ?kK ?kd ?ku ?kp0 ?kp1 ?_; (case k1 => k_asm); (case k2 => k_asm); (case k3 => k_asm); (case k4 => k_asm); (case k5 => k_asm); (case kK => first | exact rfl | assumption); (case kd => ktr_room); (case ku => ktr_units); (case kp0 => assumption); (case kp1 => exact mulok (by decide) (by decide) (by assumption) (by omega))); intro _ _ _ kF9 kN9; (try k_fold)))

local macro_rules | `(tactic| walk_at "subscriptTail") => `(tactic| (k_here; (with_reducible show wpAny _ _ (subscriptTail _ _ (Value.bytes _ _) (Value.int _ _)) _ _ _); k_dflt (refine item_at (by with_reducible assumption) (by omega) (by omega) (by omega) ?_); intro _ _))

set_option maxHeartbeats 4000000 in
theorem law_2 {w : World} {oc' : Value} {od' : Option Addr} {osl' : Array (Option Value)} {name' qual' : PySem.Str} {params' : Arguments} {b' : List Stmt} {sc' : Scope} {dV' kV' doc' pm' cdv' ct' : Value} {an' : Option Addr}
    (e : (Mine.hd.heap_39 w.params).lookup 526 = some ⟨oc', od', .func (fnOf name' qual' params' b' sc' dV' kV' doc' pm' an' cdv' ct'), osl'⟩) (hn : LG3 b' sc') : LG2 b' sc' := by
  revert hn; refine' of_def (P := fun b sc => LG3 b sc → LG2 b sc) ?kE ?_ e
  case kE => k_is
  intro hn w dp un gd a ccd outer A₀ base h₀ L m s Q p loose mean mg mb D vs d0 d1 d2 d3 d4 o1 o2 n0 bo to ks Bl F X N T hd hu c1 c2 hI hret mo hb hl hfk hV
  dsimp only [List.drop]
  try k_fold
  have hz := KBw.ints_length bo
  rw [hb] at hz
  replace F := fr_put mo F
  clear mo
  k_with "exec While BoolOp cons nil" => k_while (fun script ahead => AHX ks ahead) (fun script ahead => ks.length - ahead.toNat) "ahead"
  k_with "state" => first | exact ah_start | exact ah_turn (by assumption) (by omega) (by assumption) | fail "state: none"
  k_steps
  all_goals unfold Stop
  all_goals (rename AH _ _ => hA; obtain rfl := ah_end hA (by first | (left; omega) | (right; assumption)))
  all_goals exact hn Bl (by assumption) X (cb_drop (by assumption) (by intro p hp; simp only [List.mem_cons, List.not_mem_nil, or_false] at hp; rcases hp with rfl | rfl | rfl <;> (repeat (first | exact List.Mem.head _ | refine List.Mem.tail _ ?_)))) T hd hu c1 c2 hI hret (by (repeat (first | exact if_pos rfl | refine (if_neg (by decide)).trans ?_))) hb hl hfk hV (by (repeat (first | exact if_pos rfl | refine (if_neg (by decide)).trans ?_))) (by (repeat (first | exact if_pos rfl | refine (if_neg (by decide)).trans ?_)))
end Mine
end
section
example : True := by
  w_top off
  trivial
open PySem PySem.W PyProof.Rows
namespace Mine
example : PySem.Challenge.rw_vn0015_01 = PySem.Challenge.rw_vn0015_01 ∧ Mine.hd.heap_39 = Mine.hd.heap_39 := by
  k_fill
  exact ⟨rfl, rfl⟩

local macro_rules | `(tactic| k_memK) => `(tactic| assumption)
local macro_rules | `(tactic| kst_facts1) => `(tactic| first | exact IntsAre.nil | exact IntsAre.append (by with_reducible assumption) (.cons _ _ .nil) | with_reducible assumption | exact PyProof.Rows.StrsAre.nil | exact PyProof.Rows.StrsAre.append' (by with_reducible assumption) (.cons _ _ .nil))
local macro_rules | `(tactic| walk_at "call ref") => `(tactic| (k_here; (with_reducible show wpAny _ _ (call (Value.ref _) [Value.bytes _ _, Value.str _ _]) _ _ _); k_dflt (refine call_from (by k_asm) (by k_mem) (by assumption) (by omega) ?_); intro _ _))
local macro_rules | `(tactic| cell_enter) => `(tactic| (refine' code_def ?k1 ?k2 ?k3 ?k4 ?k5 ?kA ?kF ?kK ?k6 ?k7 ?k8 ?k9 ?kB ?_ ?c2 ?c3 ?c4 ?c5; (case kA => exact rfl); (case kF => exact rfl); (case kK => first | assumption | exact rfl); (case k1 => k_asm); (case k2 => k_asm); (case k3 => k_asm); (case k4 => k_asm); (case k5 => k_asm); (case k6 => k_is); (case k7 => k_is); (case k8 => ktr_room); (case k9 => first | exact BindsTo.of_eq rfl | exact binds_K (by k_in) rfl (by k_is) rfl rfl rfl); (case c5 => decide); (case kB => exact locs rfl); (case c2 => exact rfl); (case c3 => exact rfl); (case c4 => exact rfl); k_whole; intro g' L' h' FG' F' N' B' X' T'; (try dsimp only); (try k_lift B'); (try k_fold)))
local macro_rules | `(tactic| walk_at "call ref") => `(tactic| (k_here; (with_reducible show wpAny _ _ (call (Value.ref _) _) _ _ _); (refine wpAny_call ?_); k_dflt cell_enter))
local macro_rules | `(tactic| walk_at "getAttr int") => `(tactic| (k_here; (refine int_class ?_); intro _))
local macro_rules | `(tactic| walk_at "call builtin:hasattr") => `(tactic| (k_here; k_dflt (refine has_missF (by k_asm) (by k_asm) (by rfl) ?_); intro h' tk' F' N'; (try k_sweep)))
local macro_rules | `(tactic| walk_at "binaryOp Mod int int") => `(tactic| (k_here; (with_reducible refine mod_pos (by omega) ?_); intro _ _))
local macro_rules | `(tactic| walk_at "binaryOp FloorDiv int int") => `(tactic| (k_here; (with_reducible refine fdiv_small (by omega) (by omega) ?_); intro hq; (try (replace hq := hq (by omega)))))
local macro_rules | `(tactic| walk_at "binaryOp Pow int int") => `(tactic| (k_here; first | ((with_reducible refine pow2_f (by omega) (by omega) ?_); intro _ _) | ((with_reducible refine pow_f 2 (by omega) (by omega) (by omega) (by omega) (by omega) (by decide) ?_); intro _ _) | ((with_reducible refine pow_f 6 (by omega) (by omega) (by omega) (by omega) (by omega) (by decide) ?_); intro _ _)))
local macro_rules | `(tactic| walk_at "subscriptTail Name Constant ref int") => `(tactic| (k_here; (with_unfolding_all refine' item_list_ints ?k1 ?k2 ?k3 ?k4 ?k5 ?_); (case k1 => is_list); (case k2 => assumption); (case k3 => omega); (case k4 => (show _ < (5 : Int); omega)); (case k5 => omega); intro _; simp only [getD0, getD1]))
local macro_rules | `(tactic| walk_at "subscriptTail Name BinOp ref int") => `(tactic| (k_here; (with_unfolding_all refine' item_list_ints ?k1 ?k2 ?k3 ?k4 ?k5 ?_); (case k1 => is_list); (case k2 => assumption); (case k3 => omega); (case k4 => (show _ < (5 : Int); omega)); (case k5 => omega); intro _))
local macro_rules | `(tactic| walk_at "eval ListComp") => `(tactic| (k_here; (with_reducible show wpAny _ _ (eval (Expr.ListComp (Expr.BinOp _ _ _ _) _ _ _) _) _ _ _); k_dflt (lcf_look; lcg_calm; (refine LCg.ListComp_U (F₀ := by k_asm) (by with_unfolding_all rfl) (by decide) (by rfl) (by decide) (by rfl) ?_); lcg_toSrc)))
local macro_rules | `(tactic| walk_at "execs cons") => `(tactic| (k_here; (with_reducible show wpAny _ _ (execs (Stmt.Assign [Expr.Name (PySem.Str.ofString "text") _] _ _ :: _) _) _ _ _); walk_say "STOP"; refine Stop.go ?_))

structure G85 (ks ys : List Int) : Prop where
  h : CB 8 5 true ks (some ys)
theorem g85_facts {ks ys : List Int} (hk : Figs 256 ks) (h : CB 8 5 true ks (some ys)) : ∃ e : Nat, Figs 32 ys ∧ 5 * ys.length = 8 * ks.length + e ∧ e < 5 ∧ val 32 ys = val 256 ks * 2 ^ e := by
  obtain ⟨gs, e, h0, h1, h2, h3, h4⟩ := g85 hk h
  cases h0
  exact ⟨e, h1, h2, h3, h4⟩
theorem g85_one {ks ys zs : List Int} (h : G85 ks ys) (h' : CB 8 5 true ks (some zs)) : zs = ys := Option.some.inj (cb_unique (by decide) (by decide) h' h.h)
theorem g58_some {ks gs zs : List Int} {e : Nat} (hk : Figs 256 ks) (hg : Figs 32 gs) (h1 : 5 * gs.length = 8 * ks.length + e) (h2 : e < 5) (h3 : val 32 gs = val 256 ks * 2 ^ e) (h : CB 5 8 false gs (some zs)) : zs = ks := Option.some.inj (g58 hk hg h1 h2 h3 h)
theorem g58_none {P : Prop} {ks gs : List Int} {e : Nat} (hk : Figs 256 ks) (hg : Figs 32 gs) (h1 : 5 * gs.length = 8 * ks.length + e) (h2 : e < 5) (h3 : val 32 gs = val 256 ks * 2 ^ e) (h : CB 5 8 false gs none) : P := by cases g58 hk hg h1 h2 h3 h
theorem v8 {v n : Int} {l k e : Nat} (h1 : 5 * l = 8 * k + e) (h2 : v = n * 2 ^ e) (h : v ≠ n * 2 ^ (5 * (l : Int) - 8 * (k : Int)).toNat) : False := by
  have e1 : (5 * (l : Int) - 8 * (k : Int)).toNat = e := by omega
  rw [e1] at h; exact h h2
theorem g85_none {P : Prop} {ks : List Int} (hk : Figs 256 ks) (h : CB 8 5 true ks none) : P := by obtain ⟨_, _, h0, _⟩ := g85 hk h; cases h0
local macro_rules | `(tactic| walk_at "ite") => `(tactic| (k_here; exfalso; k_dflt (first | (exact absurd rfl (by with_reducible assumption)) | exact v8 (by with_reducible assumption) (by with_reducible assumption) (by with_reducible assumption) | omega)))
local macro_rules | `(tactic| walk_at "call type:list") => `(tactic| (k_here; (with_reducible show wpAny _ _ (call (Value.type "list") [Value.bytes _ _]) _ _ _); k_dflt (refine' list_bytes ?k1 ?k2 ?k3 ?k4 ?k5 ?_; (case k1 => k_asm); (case k2 => k_asm); (case k3 => rfl); (case k4 => assumption); (case k5 => omega)); intro D1 vs1 n1 h1 k1 F1 N1 hi1 hl1; (try k_fold)))
local macro_rules | `(tactic| walk_at "execs cons") => `(tactic| (k_here; (with_reducible show wpAny _ _ (execs [Stmt.Return _ _] _) _ _ _); exfalso; k_dflt (first | (exact absurd rfl (by with_reducible assumption)) | exact v8 (by with_reducible assumption) (by with_reducible assumption) (by with_reducible assumption) | omega)))
local macro_rules | `(tactic| walk_at "call ref") => `(tactic| (k_here; (with_reducible show wpAny _ _ (call (Value.ref 71) [Value.bytes _ _, Value.int _ _, Value.int _ _]) _ _ _); k_dflt (refine' conv_bytes_71 ?k1 ?k2 ?k3 ?k4 ?k5 ?kK ?kd ?ku ?kp0 ?kp1 ?kp2 ?kp3 ?kp4 ?kp5 ?kp6 ?_; (case k1 => k_asm); (case k2 => k_asm); (case k3 => k_asm); (case k4 => k_asm); (case k5 => k_asm); (case kK => first | exact rfl | assumption); (case kd => ktr_room); (case ku => ktr_units); (case kp0 => assumption); (case kp1 => omega); (case kp2 => decide); (case kp3 => decide); (case kp4 => decide); (case kp5 => decide); (case kp6 => (intro hC; exact g85_none (by assumption) hC))); intro ys hC l vs1 n1 h1 k1 F1 N1 hi1 hlt1; (try k_fold); k_dflt ((obtain ⟨e1, hg1, hg2, hg3, hg4⟩ := g85_facts (by assumption) hC); (have hG := G85.mk hC); clear hC; (have hlen1 := IntsAre.length hi1))))
local macro_rules | `(tactic| walk_at "call ref") => `(tactic| (k_here; (with_reducible show wpAny _ _ (call (Value.ref 79) [Value.bytes _ _, Value.int _ _, Value.int _ _]) _ _ _); k_dflt (refine' conv_bytes_79 ?k1 ?k2 ?k3 ?k4 ?k5 ?kK ?kd ?ku ?kp0 ?kp1 ?kp2 ?kp3 ?kp4 ?kp5 ?kp6 ?_; (case k1 => k_asm); (case k2 => k_asm); (case k3 => k_asm); (case k4 => k_asm); (case k5 => k_asm); (case kK => first | exact rfl | assumption); (case kd => ktr_room); (case ku => ktr_units); (case kp0 => assumption); (case kp1 => omega); (case kp2 => decide); (case kp3 => decide); (case kp4 => decide); (case kp5 => decide); (case kp6 => (intro hC; exact g85_none (by assumption) hC))); intro ys hC l vs1 n1 h1 k1 F1 N1 hi1 hlt1; (try k_fold); k_dflt ((have hEq := (g85_one (by assumption) hC).symm); (clear hC); subst hEq)))
local macro_rules | `(tactic| walk_at "call ref") => `(tactic| (k_here; (with_reducible show wpAny _ _ (call (Value.ref 71) [Value.ref _, Value.int _ _, Value.int _ _, Value.bool _]) _ _ _); k_dflt (refine' conv_list_71 ?k1 ?k2 ?k3 ?k4 ?k5 ?kK ?kd ?ku ?kp0 ?kp1 ?kp2 ?kp3 ?kp4 ?kp5 ?kp6 ?kp7 ?_; (case k1 => k_asm); (case k2 => k_asm); (case k3 => k_asm); (case k4 => k_asm); (case k5 => k_asm); (case kK => first | exact rfl | assumption); (case kd => ktr_room); (case ku => ktr_units); (case kp0 => k_mem); (case kp1 => assumption); (case kp2 => omega); (case kp3 => decide); (case kp4 => decide); (case kp5 => decide); (case kp6 => decide); (case kp7 => (intro hC; exact g58_none (by assumption) (by assumption) (by assumption) (by assumption) (by assumption) hC))); intro ys hC l vs1 n1 h1 k1 F1 N1 hi1 hlt1; (try k_fold); k_dflt ((have hEq := (g58_some (by assumption) (by assumption) (by assumption) (by assumption) (by assumption) hC).symm); (clear hC); subst hEq)))
local macro_rules | `(tactic| walk_at "call ref") => `(tactic| (k_here; (with_reducible show wpAny _ _ (call (Value.ref 79) [Value.ref _, Value.int _ _, Value.int _ _, Value.bool _]) _ _ _); k_dflt (refine' conv_list_79 ?k1 ?k2 ?k3 ?k4 ?k5 ?kK ?kd ?ku ?kp0 ?kp1 ?kp2 ?kp3 ?kp4 ?kp5 ?kp6 ?kp7 ?_; (case k1 => k_asm); (case k2 => k_asm); (case k3 => k_asm); (case k4 => k_asm); (case k5 => k_asm); (case kK => first | exact rfl | assumption); (case kd => ktr_room); (case ku => ktr_units); (case kp0 => k_mem); (case kp1 => assumption); (case kp2 => omega); (case kp3 => decide); (case kp4 => decide); (case kp5 => decide); (case kp6 => decide); (case kp7 => (intro hC; exact g58_none (by assumption) (by assumption) (by assumption) (by assumption) (by assumption) hC))); intro ys hC l vs1 n1 h1 k1 F1 N1 hi1 hlt1; (try k_fold); k_dflt ((have hEq := (g58_some (by assumption) (by assumption) (by assumption) (by assumption) (by assumption) hC).symm); (clear hC); subst hEq)))
local macro_rules | `(tactic| walk_at "call ref") => `(tactic| (k_here; (with_reducible show wpAny _ _ (call (Value.ref 521) [Value.ref _, Value.int _ _]) _ _ _); k_dflt (refine' value_list ?k1 ?k2 ?k3 ?k4 ?k5 ?kK ?kd ?ku ?kp0 ?kp1 ?kp2 ?_; (case k1 => k_asm); (case k2 => k_asm); (case k3 => k_asm); (case k4 => k_asm); (case k5 => k_asm); (case kK => first | exact rfl | assumption); (case kd => ktr_room); (case ku => ktr_units); (case kp0 => k_mem); (case kp1 => assumption); (case kp2 => exact mulok (by decide) (by decide) (by assumption) (by omega))); intro _ _ _ kF9 kN9; (try k_fold)))

set_option maxHeartbeats 4000000 in
theorem law_3 {w : World} {oc' : Value} {od' : Option Addr} {osl' : Array (Option Value)} {name' qual' : PySem.Str} {params' : Arguments} {b' : List Stmt} {sc' : Scope} {dV' kV' doc' pm' cdv' ct' : Value} {an' : Option Addr}
    (e : (Mine.hd.heap_39 w.params).lookup 526 = some ⟨oc', od', .func (fnOf name' qual' params' b' sc' dV' kV' doc' pm' an' cdv' ct'), osl'⟩) (hn : LG4 b' sc') : LG3 b' sc' := by
  revert hn; refine' of_def (P := fun b sc => LG4 b sc → LG3 b sc) ?kE ?_ e
  case kE => k_is
  intro hn w dp un gd a ccd outer A₀ base h₀ L m s Q p loose mean mg mb D vs d0 d1 d2 d3 d4 o1 o2 n0 bo to ks tn ta Bl F X N T hd hu c1 c2 hI hret mo hb hl hfk hV mn ma
  dsimp only [List.drop]
  try k_fold
  have hz := KBw.ints_length bo
  rw [hb] at hz
  replace F := fr_put3 ma mn mo F
  clear mo ma mn
  k_steps
  all_goals unfold Stop
  all_goals exact hn Bl (by assumption) X (cb_drop (by assumption) (by intro p hp; simp only [List.mem_cons, List.not_mem_nil, or_false] at hp; rcases hp with rfl | rfl | rfl <;> (repeat (first | exact List.Mem.head _ | refine List.Mem.tail _ ?_)))) T hd hu c1 c2 hI hret (by (repeat (first | exact if_pos rfl | refine (if_neg (by decide)).trans ?_))) hb hl hfk hV (by (repeat (first | exact if_pos rfl | refine (if_neg (by decide)).trans ?_))) (by (repeat (first | exact if_pos rfl | refine (if_neg (by decide)).trans ?_)))
end Mine
end
section
example : True := by
  w_top off
  trivial
local macro_rules | `(tactic| walk_at "no such word") => `(tactic| fail "none")
local macro_rules | `(tactic| walk_at "no such word") => `(tactic| fail "none")
local macro_rules | `(tactic| walk_at "no such word") => `(tactic| fail "none")
local macro_rules | `(tactic| walk_at "no such word") => `(tactic| fail "none")
local macro_rules | `(tactic| walk_at "no such word") => `(tactic| fail "none")
local macro_rules | `(tactic| walk_at "no such word") => `(tactic| fail "none")
local macro_rules | `(tactic| walk_at "no such word") => `(tactic| fail "none")
local macro_rules | `(tactic| walk_at "no such word") => `(tactic| fail "none")
local macro_rules | `(tactic| walk_at "no such word") => `(tactic| fail "none")
local macro_rules | `(tactic| walk_at "no such word") => `(tactic| fail "none")
local macro_rules | `(tactic| walk_at "no such word") => `(tactic| fail "none")
local macro_rules | `(tactic| walk_at "no such word") => `(tactic| fail "none")
local macro_rules | `(tactic| walk_at "no such word") => `(tactic| fail "none")
local macro_rules | `(tactic| walk_at "no such word") => `(tactic| fail "none")
local macro_rules | `(tactic| walk_at "no such word") => `(tactic| fail "none")
local macro_rules | `(tactic| walk_at "no such word") => `(tactic| fail "none")
local macro_rules | `(tactic| walk_at "no such word") => `(tactic| fail "none")
local macro_rules | `(tactic| walk_at "no such word") => `(tactic| fail "none")
local macro_rules | `(tactic| walk_at "no such word") => `(tactic| fail "none")
local macro_rules | `(tactic| walk_at "no such word") => `(tactic| fail "none")
local macro_rules | `(tactic| walk_at "no such word") => `(tactic| fail "none")
local macro_rules | `(tactic| walk_at "no such word") => `(tactic| fail "none")
local macro_rules | `(tactic| walk_at "no such word") => `(tactic| fail "none")
local macro_rules | `(tactic| walk_at "no such word") => `(tactic| fail "none")
local macro_rules | `(tactic| walk_at "no such word") => `(tactic| fail "none")
local macro_rules | `(tactic| walk_at "no such word") => `(tactic| fail "none")
local macro_rules | `(tactic| walk_at "no such word") => `(tactic| fail "none")
local macro_rules | `(tactic| walk_at "no such word") => `(tactic| fail "none")
local macro_rules | `(tactic| walk_at "no such word") => `(tactic| fail "none")
local macro_rules | `(tactic| walk_at "no such word") => `(tactic| fail "none")
local macro_rules | `(tactic| walk_at "no such word") => `(tactic| fail "none")
local macro_rules | `(tactic| walk_at "no such word") => `(tactic| fail "none")
local macro_rules | `(tactic| walk_at "no such word") => `(tactic| fail "none")
local macro_rules | `(tactic| walk_at "no such word") => `(tactic| fail "none")
local macro_rules | `(tactic| walk_at "no such word") => `(tactic| fail "none")
local macro_rules | `(tactic| walk_at "no such word") => `(tactic| fail "none")
local macro_rules | `(tactic| walk_at "no such word") => `(tactic| fail "none")
local macro_rules | `(tactic| walk_at "no such word") => `(tactic| fail "none")
local macro_rules | `(tactic| walk_at "no such word") => `(tactic| fail "none")
local macro_rules | `(tactic| walk_at "no such word") => `(tactic| fail "none")
open PySem PySem.W PyProof.Rows
namespace Mine
example : PySem.Challenge.rw_vn0015_01 = PySem.Challenge.rw_vn0015_01 ∧ Mine.hd.heap_39 = Mine.hd.heap_39 := by
  k_fill
  exact ⟨rfl, rfl⟩

local macro_rules | `(tactic| k_memK) => `(tactic| assumption)
local macro_rules | `(tactic| kst_facts1) => `(tactic| first | exact IntsAre.nil | exact IntsAre.append (by with_reducible assumption) (.cons _ _ .nil) | with_reducible assumption | exact PyProof.Rows.StrsAre.nil | exact PyProof.Rows.StrsAre.append' (by with_reducible assumption) (.cons _ _ .nil))
local macro_rules | `(tactic| walk_at "call ref") => `(tactic| (k_here; (with_reducible show wpAny _ _ (call (Value.ref _) [Value.bytes _ _, Value.str _ _]) _ _ _); k_dflt (refine call_from (by k_asm) (by k_mem) (by assumption) (by omega) ?_); intro _ _))
local macro_rules | `(tactic| cell_enter) => `(tactic| (refine' code_def ?k1 ?k2 ?k3 ?k4 ?k5 ?kA ?kF ?kK ?k6 ?k7 ?k8 ?k9 ?kB ?_ ?c2 ?c3 ?c4 ?c5; (case kA => exact rfl); (case kF => exact rfl); (case kK => first | assumption | exact rfl); (case k1 => k_asm); (case k2 => k_asm); (case k3 => k_asm); (case k4 => k_asm); (case k5 => k_asm); (case k6 => k_is); (case k7 => k_is); (case k8 => ktr_room); (case k9 => first | exact BindsTo.of_eq rfl | exact binds_K (by k_in) rfl (by k_is) rfl rfl rfl); (case c5 => decide); (case kB => exact locs rfl); (case c2 => exact rfl); (case c3 => exact rfl); (case c4 => exact rfl); k_whole; intro g' L' h' FG' F' N' B' X' T'; (try dsimp only); (try k_lift B'); (try k_fold)))
local macro_rules | `(tactic| walk_at "call ref") => `(tactic| (k_here; (with_reducible show wpAny _ _ (call (Value.ref _) _) _ _ _); (refine wpAny_call ?_); k_dflt cell_enter))
local macro_rules | `(tactic| walk_at "getAttr int") => `(tactic| (k_here; (refine int_class ?_); intro _))
local macro_rules | `(tactic| walk_at "call builtin:hasattr") => `(tactic| (k_here; k_dflt (refine has_missF (by k_asm) (by k_asm) (by rfl) ?_); intro h' tk' F' N'; (try k_sweep)))
local macro_rules | `(tactic| walk_at "binaryOp Mod int int") => `(tactic| (k_here; (with_reducible refine mod_pos (by omega) ?_); intro _ _))
local macro_rules | `(tactic| walk_at "binaryOp FloorDiv int int") => `(tactic| (k_here; (with_reducible refine fdiv_small (by omega) (by omega) ?_); intro hq; (try (replace hq := hq (by omega)))))
local macro_rules | `(tactic| walk_at "binaryOp Pow int int") => `(tactic| (k_here; first | ((with_reducible refine pow2_f (by omega) (by omega) ?_); intro _ _) | ((with_reducible refine pow_f 2 (by omega) (by omega) (by omega) (by omega) (by omega) (by decide) ?_); intro _ _) | ((with_reducible refine pow_f 6 (by omega) (by omega) (by omega) (by omega) (by omega) (by decide) ?_); intro _ _)))
local macro_rules | `(tactic| walk_at "subscriptTail Name Constant ref int") => `(tactic| (k_here; (with_unfolding_all refine' item_list_ints ?k1 ?k2 ?k3 ?k4 ?k5 ?_); (case k1 => is_list); (case k2 => assumption); (case k3 => omega); (case k4 => (show _ < (5 : Int); omega)); (case k5 => omega); intro _; simp only [getD0, getD1]))
local macro_rules | `(tactic| walk_at "subscriptTail Name BinOp ref int") => `(tactic| (k_here; (with_unfolding_all refine' item_list_ints ?k1 ?k2 ?k3 ?k4 ?k5 ?_); (case k1 => is_list); (case k2 => assumption); (case k3 => omega); (case k4 => (show _ < (5 : Int); omega)); (case k5 => omega); intro _))
local macro_rules | `(tactic| walk_at "eval ListComp") => `(tactic| (k_here; (with_reducible show wpAny _ _ (eval (Expr.ListComp (Expr.BinOp _ _ _ _) _ _ _) _) _ _ _); k_dflt (lcf_look; lcg_calm; (refine LCg.ListComp_U (F₀ := by k_asm) (by with_unfolding_all rfl) (by decide) (by rfl) (by decide) (by rfl) ?_); lcg_toSrc)))

theorem enc58 {w : World} {dp un : Nat} {gd : Option (List Code)} {cn : Str} {cs : Scope} {a : Addr} {ccd : Value} {cl : List (Str × Addr)} {outer : List Env} {A₀ : Around} {base h₀ : Heap} {L : Addr} {m : Str → Option Value} {s : Shared} {Q E : Value → Shared → Prop}
    {p : Program} {loose : List Str} {mean : ExcName → Option Value} {mg mb : Str → Option Value} {news : List (Addr × Obj)} {b : Array UInt8} {ks : List Int} {t : Tok}
    (Bl : Below A₀ base outer h₀) (F : Fr h₀ L s.heap m) (X : (Mine.hd.heap_39 w.params).In h₀) (N : News h₀ L s.heap news) (T : Top p loose mean mg mb h₀) (hk_ : cs.kind = .function) (hd : dp + 20 < recursionLimit) (hu : un + 200 < cLine)
    (hb : KBw.bInts b = ks) (hl : ks.length ≤ 12) (hk : Figs 256 ks) (hV : PySem.Flt.Hid (val 256 ks < 2 ^ 64))
    (hret : ∀ ds : List Int, T58 ks ds → ∀ t h' tk', Fr h₀ L h' m → News h₀ L h' news → Q (.str (text58 ds) t) { s with heap := h', toks := tk' }) :
    wpAny (model PySem.Challenge.pw_vn0015_01 w) (ktrTop dp un gd cn cs L a ccd cl outer) (call (.ref 56) [.bytes b t]) Q E s :=
  enc_base58 Bl F X N T hk_ hd hu hb (by omega) (val_range (by decide) hk).1 ⟨Int.lt_of_lt_of_le hV.1 (by decide)⟩ fun es he hv hn t' h' tk' F' N' => hret _ (t58 hk hl hV he hv hn) t' h' tk' F' N'

local macro_rules | `(tactic| walk_at "subscriptTail Name Slice str ref") => `(tactic| (k_here; (with_reducible rename Fr _ _ _ _ => F'); (with_reducible rename News _ _ _ _ => N'); (first | (refine cut1 (s := ⟨_, _, _, _, _⟩) (by assumption) rfl F' N' ?_ (by with_unfolding_all rfl) (by intro _; with_unfolding_all rfl)) | (refine cut2 (s := ⟨_, _, _, _, _⟩) (by assumption) rfl rfl F' N' ?_ (by with_unfolding_all rfl) (by intro _; with_unfolding_all rfl))); intro h' t' k' F' N'))
local macro_rules | `(tactic| walk_at "binaryOp Mult str int") => `(tactic| (k_here; k_dflt (refine mul1 (by (have h9 := lead_le ‹List Int›); omega) ?_); intro _ _))
local macro_rules | `(tactic| walk_at "compareOp NotEq str str") => `(tactic| (k_here; (with_reducible refine ne_same ?_)))
local macro_rules | `(tactic| walk_at "compareOp Eq str str") => `(tactic| (k_here; k_dflt (refine eq1 (by assumption) ?_)))
local macro_rules | `(tactic| walk_at "call builtin:str.index") => `(tactic| (k_here; (refine index_el (by with_reducible assumption) (by with_reducible assumption) (by rfl) ?_)))
local macro_rules | `(tactic| walk_at "compareOp NotEq bytes bytes") => `(tactic| (k_here; k_dflt (refine ne_K (by assumption) (by assumption) ?_)))

local macro_rules | `(tactic| walk_at "eval ListComp") => `(tactic| (k_here; (with_reducible show wpAny _ _ (eval (Expr.ListComp (Expr.Call _ _ _ _) _ _ _) _) _ _ _); k_dflt (refine ListComp_S (F₀ := by k_asm) (by with_unfolding_all rfl) (by decide) (by rfl) (by decide) (by rfl) ?_)))
local macro_rules | `(tactic| walk_at "Src58") => `(tactic| (k_here; k_dflt (refine' ⟨_, _, _, rfl, ?k1, rfl, ?k2, ?k3, ?_, ?_⟩; (case k1 => assumption); (case k2 => k_asm); (case k3 => k_asm)); (all_goals intros)))
local macro_rules | `(tactic| walk_at "El58") => `(tactic| (k_here; k_dflt (exact ⟨_, _, _, rfl, rfl, by k_asm, by k_asm⟩)))
local macro_rules | `(tactic| walk_at "ite") => `(tactic| (k_here; exfalso; k_dflt (first | (exact absurd rfl (by with_reducible assumption)) | omega)))
local macro_rules | `(tactic| walk_at "execs cons") => `(tactic| (k_here; (with_reducible show wpAny _ _ (execs [Stmt.Return _ _] _) _ _ _); exfalso; k_dflt (first | (exact absurd rfl (by with_reducible assumption)) | exact absurd rfl (by assumption) | omega)))
local macro_rules | `(tactic| walk_at "execs cons") => `(tactic| (k_here; (with_reducible show wpAny _ _ (execs (Stmt.If (Expr.BoolOp _ [Expr.Compare (Expr.Call (Expr.Name (PySem.Str.ofString "big_endian_to_int") _) _ _ _) _ _ _, _] _) _ _ _ :: _) _) _ _ _); walk_say "STOP"; refine Stop.go ?_))
local macro_rules | `(tactic| walk_at "call ref") => `(tactic| (k_here; (with_reducible show wpAny _ _ (call (Value.ref 56) [Value.bytes _ _]) _ _ _); k_dflt (refine' enc58 ?k1 ?k2 ?k3 ?k4 ?k5 ?kK ?kd ?ku ?kp0 ?kp1 ?kp2 ?kp3 ?_; (case k1 => k_asm); (case k2 => k_asm); (case k3 => k_asm); (case k4 => k_asm); (case k5 => k_asm); (case kK => first | exact rfl | assumption); (case kd => ktr_room); (case ku => ktr_units); (case kp0 => assumption); (case kp1 => assumption); (case kp2 => assumption); (case kp3 => assumption)); intro ds hT _ _ _ kF9 kN9; (try k_fold); (have hlow := T58.low hT); (have hlen := T58.len hT); (have hfig := T58.figs hT); (have hval := T58.value hT)))
local macro_rules | `(tactic| walk_at "call ref") => `(tactic| (k_here; (with_reducible show wpAny _ _ (call (Value.ref 521) [Value.ref _, Value.int _ _]) _ _ _); k_dflt (refine' value_list ?k1 ?k2 ?k3 ?k4 ?k5 ?kK ?kd ?ku ?kp0 ?kp1 ?kp2 ?_; (case k1 => k_asm); (case k2 => k_asm); (case k3 => k_asm); (case k4 => k_asm); (case k5 => k_asm); (case kK => first | exact rfl | assumption); (case kd => ktr_room); (case ku => ktr_units); (case kp0 => k_mem); (case kp1 => assumption); (case kp2 => exact mulok (by decide) (by decide) (by assumption) (by omega))); intro _ _ _ kF9 kN9; (try k_fold)))
local macro_rules | `(tactic| walk_at "call ref") => `(tactic| (k_here; (with_reducible show wpAny _ _ (call (Value.ref 63) [Value.str (text58 _) _]) _ _ _); k_dflt (refine' dec_base58 ?k1 ?k2 ?k3 ?k4 ?k5 ?kK ?kd ?ku ?kp0 ?kp1 ?kp2 ?_; (case k1 => k_asm); (case k2 => k_asm); (case k3 => k_asm); (case k4 => k_asm); (case k5 => k_asm); (case kK => first | exact rfl | assumption); (case kd => ktr_room); (case ku => ktr_units); (case kp0 => exact T58.figs (by assumption)); (case kp1 => exact T58.len (by assumption)); (case kp2 => exact ⟨by rw [T58.value (by assumption)]; exact PySem.Flt.Hid.out (by assumption)⟩)); intro b2 _ _ _ hb2 kF9 kN9; (try k_fold); k_dflt (rw [T58.back (by assumption)] at hb2)))

set_option maxHeartbeats 4000000 in
theorem law_4 {w : World} {oc' : Value} {od' : Option Addr} {osl' : Array (Option Value)} {name' qual' : PySem.Str} {params' : Arguments} {b' : List Stmt} {sc' : Scope} {dV' kV' doc' pm' cdv' ct' : Value} {an' : Option Addr}
    (e : (Mine.hd.heap_39 w.params).lookup 526 = some ⟨oc', od', .func (fnOf name' qual' params' b' sc' dV' kV' doc' pm' an' cdv' ct'), osl'⟩) (hn : LG5 b' sc') : LG4 b' sc' := by
  revert hn; refine' of_def (P := fun b sc => LG5 b sc → LG4 b sc) ?kE ?_ e
  case kE => k_is
  intro hn w dp un gd a ccd outer A₀ base h₀ L m s Q p loose mean mg mb D vs d0 d1 d2 d3 d4 o1 o2 n0 bo to ks tn ta Bl F X N T hd hu c1 c2 hI hret mo hb hl hfk hV mn ma
  dsimp only [List.drop]
  try k_fold
  have hz := KBw.ints_length bo
  rw [hb] at hz
  replace F := fr_put3 ma mn mo F
  clear mo ma mn
  k_steps
  all_goals unfold Stop
  all_goals exact hn Bl (by assumption) X (cb_drop (by assumption) (by intro p hp; simp only [List.mem_cons, List.not_mem_nil, or_false] at hp; rcases hp with rfl | rfl | rfl <;> (repeat (first | exact List.Mem.head _ | refine List.Mem.tail _ ?_)))) T hd hu c1 c2 hI hret (by (repeat (first | exact if_pos rfl | refine (if_neg (by decide)).trans ?_))) hb hl hfk hV (by (repeat (first | exact if_pos rfl | refine (if_neg (by decide)).trans ?_))) (by (repeat (first | exact if_pos rfl | refine (if_neg (by decide)).trans ?_)))
end Mine
end
section
example : True := by
  w_top off
  trivial
open PySem PySem.W PyProof.Rows
namespace Mine
example : PySem.Challenge.rw_vn0015_01 = PySem.Challenge.rw_vn0015_01 ∧ Mine.hd.heap_39 = Mine.hd.heap_39 := by
  k_fill
  exact ⟨rfl, rfl⟩

local macro_rules | `(tactic| k_memK) => `(tactic| assumption)
local macro_rules | `(tactic| kst_facts1) => `(tactic| first | exact IntsAre.nil | exact IntsAre.append (by with_reducible assumption) (.cons _ _ .nil) | with_reducible assumption | exact PyProof.Rows.StrsAre.nil | exact PyProof.Rows.StrsAre.append' (by with_reducible assumption) (.cons _ _ .nil))
local macro_rules | `(tactic| walk_at "call ref") => `(tactic| (k_here; (with_reducible show wpAny _ _ (call (Value.ref _) [Value.bytes _ _, Value.str _ _]) _ _ _); k_dflt (refine call_from (by k_asm) (by k_mem) (by assumption) (by omega) ?_); intro _ _))
local macro_rules | `(tactic| cell_enter) => `(tactic| (refine' code_def ?k1 ?k2 ?k3 ?k4 ?k5 ?kA ?kF ?kK ?k6 ?k7 ?k8 ?k9 ?kB ?_ ?c2 ?c3 ?c4 ?c5; (case kA => exact rfl); (case kF => exact rfl); (case kK => first | assumption | exact rfl); (case k1 => k_asm); (case k2 => k_asm); (case k3 => k_asm); (case k4 => k_asm); (case k5 => k_asm); (case k6 => k_is); (case k7 => k_is); (case k8 => ktr_room); (case k9 => first | exact BindsTo.of_eq rfl | exact binds_K (by k_in) rfl (by k_is) rfl rfl rfl); (case c5 => decide); (case kB => exact locs rfl); (case c2 => exact rfl); (case c3 => exact rfl); (case c4 => exact rfl); k_whole; intro g' L' h' FG' F' N' B' X' T'; (try dsimp only); (try k_lift B'); (try k_fold)))
local macro_rules | `(tactic| walk_at "call ref") => `(tactic| (k_here; (with_reducible show wpAny _ _ (call (Value.ref _) _) _ _ _); (refine wpAny_call ?_); k_dflt cell_enter))
local macro_rules | `(tactic| walk_at "getAttr int") => `(tactic| (k_here; (refine int_class ?_); intro _))
local macro_rules | `(tactic| walk_at "call builtin:hasattr") => `(tactic| (k_here; k_dflt (refine has_missF (by k_asm) (by k_asm) (by rfl) ?_); intro h' tk' F' N'; (try k_sweep)))
local macro_rules | `(tactic| walk_at "binaryOp Mod int int") => `(tactic| (k_here; (with_reducible refine mod_pos (by omega) ?_); intro _ _))
local macro_rules | `(tactic| walk_at "binaryOp FloorDiv int int") => `(tactic| (k_here; (with_reducible refine fdiv_small (by omega) (by omega) ?_); intro hq; (try (replace hq := hq (by omega)))))
local macro_rules | `(tactic| walk_at "binaryOp Pow int int") => `(tactic| (k_here; first | ((with_reducible refine pow2_f (by omega) (by omega) ?_); intro _ _) | ((with_reducible refine pow_f 2 (by omega) (by omega) (by omega) (by omega) (by omega) (by decide) ?_); intro _ _) | ((with_reducible refine pow_f 6 (by omega) (by omega) (by omega) (by omega) (by omega) (by decide) ?_); intro _ _)))
local macro_rules | `(tactic| walk_at "subscriptTail Name Constant ref int") => `(tactic| (k_here; (with_unfolding_all refine' item_list_ints ?k1 ?k2 ?k3 ?k4 ?k5 ?_); (case k1 => is_list); (case k2 => assumption); (case k3 => omega); (case k4 => (show _ < (5 : Int); omega)); (case k5 => omega); intro _; simp only [getD0, getD1]))
local macro_rules | `(tactic| walk_at "subscriptTail Name BinOp ref int") => `(tactic| (k_here; (with_unfolding_all refine' item_list_ints ?k1 ?k2 ?k3 ?k4 ?k5 ?_); (case k1 => is_list); (case k2 => assumption); (case k3 => omega); (case k4 => (show _ < (5 : Int); omega)); (case k5 => omega); intro _))
local macro_rules | `(tactic| walk_at "eval ListComp") => `(tactic| (k_here; (with_reducible show wpAny _ _ (eval (Expr.ListComp (Expr.BinOp _ _ _ _) _ _ _) _) _ _ _); k_dflt (lcf_look; lcg_calm; (refine LCg.ListComp_U (F₀ := by k_asm) (by with_unfolding_all rfl) (by decide) (by rfl) (by decide) (by rfl) ?_); lcg_toSrc)))

theorem back_lead (ks : List Int) : List.replicate (lead ks) 0 ++ ks.drop (lead ks) = ks := (lead_split ks).symm
local macro_rules | `(tactic| walk_at "subscriptTail Name Slice bytes ref") => `(tactic| (k_here; (with_reducible rename Fr _ _ _ _ => F'); (with_reducible rename News _ _ _ _ => N'); (refine cut_from (s := ⟨_, _, _, _, _⟩) F' N' (by with_reducible assumption) (by omega) (lead_le _) ?_); intro c' h' t' k' F' N' e'))
local macro_rules | `(tactic| walk_at "compareOp NotEq bytes bytes") => `(tactic| (k_here; k_dflt (refine ne_no (by with_reducible assumption) (by with_reducible assumption) ?_)))
local macro_rules | `(tactic| walk_at "binaryOp Mult bytes int") => `(tactic| (k_here; k_dflt (refine mulB (by omega) (by omega) ?_); intro _ _ _ kZ1; k_dflt (rw [Int.toNat_natCast] at kZ1)))
local macro_rules | `(tactic| walk_at "binaryOp Add bytes bytes") => `(tactic| (k_here; (refine addB (by with_reducible assumption) (by omega) (by with_reducible assumption) (by rw [List.length_drop]; omega) ?_); intro _ _ _ kA1; k_dflt (rw [back_lead] at kA1)))
local macro_rules | `(tactic| walk_at "ite") => `(tactic| (k_here; exfalso; k_dflt (first | (exact absurd rfl (by with_reducible assumption)) | omega)))
local macro_rules | `(tactic| walk_at "execs cons") => `(tactic| (k_here; (with_reducible show wpAny _ _ (execs [Stmt.Return _ _] _) _ _ _); exfalso; k_dflt (first | (exact absurd rfl (by with_reducible assumption)) | exact absurd rfl (by assumption) | omega)))
local macro_rules | `(tactic| walk_at "execs cons") => `(tactic| (k_here; (with_reducible show wpAny _ _ (execs (Stmt.Assign [Expr.Tuple [Expr.Name (PySem.Str.ofString "wide") _, _] _ _] _ _ :: _) _) _ _ _); walk_say "STOP"; refine Stop.go ?_))
local macro_rules | `(tactic| walk_at "call ref") => `(tactic| (k_here; (with_reducible show wpAny _ _ (call (Value.ref 249) [Value.bytes _ _]) _ _ _); k_dflt (refine' b2i ?k1 ?k2 ?k3 ?k4 ?k5 ?kK ?kd ?ku ?kp0 ?kp1 ?_; (case k1 => k_asm); (case k2 => k_asm); (case k3 => k_asm); (case k4 => k_asm); (case k5 => k_asm); (case kK => first | exact rfl | assumption); (case kd => ktr_room); (case ku => ktr_units); (case kp0 => assumption); (case kp1 => omega)); intro _ _ _ kF9 kN9; (try k_fold)))
local macro_rules | `(tactic| walk_at "call ref") => `(tactic| (k_here; (with_reducible show wpAny _ _ (call (Value.ref 256) [Value.int _ _]) _ _ _); k_dflt (refine' i2b ?k1 ?k2 ?k3 ?k4 ?k5 ?kK ?kd ?ku ?kp0 ?kp1 ?_; (case k1 => k_asm); (case k2 => k_asm); (case k3 => k_asm); (case k4 => k_asm); (case k5 => k_asm); (case kK => first | exact rfl | assumption); (case kd => ktr_room); (case ku => ktr_units); (case kp0 => assumption); (case kp1 => assumption)); intro b1 _ _ _ kB1 kB2 kF9 kN9; (try k_fold); k_dflt (rw [min_octets (by assumption) (by assumption)] at kB1)))
local macro_rules | `(tactic| walk_at "call ref") => `(tactic| (k_here; (with_reducible show wpAny _ _ (call (Value.ref 278) [Value.ref 294, Value.int _ _]) _ _ _); k_dflt (refine' ser ?k1 ?k2 ?k3 ?k4 ?k5 ?kK ?kd ?ku ?kp0 ?kp1 ?_; (case k1 => k_asm); (case k2 => k_asm); (case k3 => k_asm); (case k4 => k_asm); (case k5 => k_asm); (case kK => first | exact rfl | assumption); (case kd => ktr_room); (case ku => ktr_units); (case kp0 => assumption); (case kp1 => assumption)); intro b1 _ _ _ kS1 kS2 kF9 kN9; (try k_fold); k_dflt (rw [ser_octets (by assumption)] at kS1)))
local macro_rules | `(tactic| walk_at "call ref") => `(tactic| (k_here; (with_reducible show wpAny _ _ (call (Value.ref 466) [Value.int _ _]) _ _ _); k_dflt (refine' encC ?k1 ?k2 ?k3 ?k4 ?k5 ?kK ?kd ?ku ?kp0 ?kp1 ?_; (case k1 => k_asm); (case k2 => k_asm); (case k3 => k_asm); (case k4 => k_asm); (case k5 => k_asm); (case kK => first | exact rfl | assumption); (case kd => ktr_room); (case ku => ktr_units); (case kp0 => assumption); (case kp1 => assumption)); intro b1 _ _ _ kS1 kS2 kF9 kN9; (try k_fold)))
local macro_rules | `(tactic| walk_at "call ref") => `(tactic| (k_here; (with_reducible show wpAny _ _ (call (Value.ref 502) [Value.bytes _ _, Value.ref 294]) _ _ _); k_dflt (refine' decC ?k1 ?k2 ?k3 ?k4 ?k5 ?kK ?kd ?ku ?kp0 ?kp1 ?kp2 ?_; (case k1 => k_asm); (case k2 => k_asm); (case k3 => k_asm); (case k4 => k_asm); (case k5 => k_asm); (case kK => first | exact rfl | assumption); (case kd => ktr_room); (case ku => ktr_units); (case kp0 => assumption); (case kp1 => assumption); (case kp2 => assumption)); intro _ _ _ kF9 kN9; (try k_fold)))

set_option maxHeartbeats 4000000 in
theorem law_5 {w : World} {oc' : Value} {od' : Option Addr} {osl' : Array (Option Value)} {name' qual' : PySem.Str} {params' : Arguments} {b' : List Stmt} {sc' : Scope} {dV' kV' doc' pm' cdv' ct' : Value} {an' : Option Addr}
    (e : (Mine.hd.heap_39 w.params).lookup 526 = some ⟨oc', od', .func (fnOf name' qual' params' b' sc' dV' kV' doc' pm' an' cdv' ct'), osl'⟩) (hn : LG6 b' sc') : LG5 b' sc' := by
  revert hn; refine' of_def (P := fun b sc => LG6 b sc → LG5 b sc) ?kE ?_ e
  case kE => k_is
  intro hn w dp un gd a ccd outer A₀ base h₀ L m s Q p loose mean mg mb D vs d0 d1 d2 d3 d4 o1 o2 n0 bo to ks tn ta Bl F X N T hd hu c1 c2 hI hret mo hb hl hfk hV mn ma
  dsimp only [List.drop]
  try k_fold
  have hz := KBw.ints_length bo
  rw [hb] at hz
  have hlead := lead_le ks
  have hv0 := (val_range (B := 256) (by decide) hfk).1
  replace F := fr_put3 ma mn mo F
  clear mo ma mn
  k_steps
  all_goals unfold Stop
  all_goals exact hn Bl (by assumption) X (cb_drop (by assumption) (by intro p hp; simp only [List.mem_cons, List.not_mem_nil, or_false] at hp; rcases hp with rfl | rfl | rfl <;> (repeat (first | exact List.Mem.head _ | refine List.Mem.tail _ ?_)))) T hd hu c1 c2 hI hret
end Mine
end
section
example : True := by
  w_top off
  trivial
local macro_rules | `(tactic| walk_at "no such word") => `(tactic| fail "none")
local macro_rules | `(tactic| walk_at "no such word") => `(tactic| fail "none")
local macro_rules | `(tactic| walk_at "no such word") => `(tactic| fail "none")
local macro_rules | `(tactic| walk_at "no such word") => `(tactic| fail "none")
local macro_rules | `(tactic| walk_at "no such word") => `(tactic| fail "none")
local macro_rules | `(tactic| walk_at "no such word") => `(tactic| fail "none")
local macro_rules | `(tactic| walk_at "no such word") => `(tactic| fail "none")
local macro_rules | `(tactic| walk_at "no such word") => `(tactic| fail "none")
local macro_rules | `(tactic| walk_at "no such word") => `(tactic| fail "none")
local macro_rules | `(tactic| walk_at "no such word") => `(tactic| fail "none")
local macro_rules | `(tactic| walk_at "no such word") => `(tactic| fail "none")
local macro_rules | `(tactic| walk_at "no such word") => `(tactic| fail "none")
local macro_rules | `(tactic| walk_at "no such word") => `(tactic| fail "none")
local macro_rules | `(tactic| walk_at "no such word") => `(tactic| fail "none")
local macro_rules | `(tactic| walk_at "no such word") => `(tactic| fail "none")
local macro_rules | `(tactic| walk_at "no such word") => `(tactic| fail "none")
local macro_rules | `(tactic| walk_at "no such word") => `(tactic| fail "none")
local macro_rules | `(tactic| walk_at "no such word") => `(tactic| fail "none")
local macro_rules | `(tactic| walk_at "no such word") => `(tactic| fail "none")
local macro_rules | `(tactic| walk_at "no such word") => `(tactic| fail "none")
local macro_rules | `(tactic| walk_at "no such word") => `(tactic| fail "none")
local macro_rules | `(tactic| walk_at "no such word") => `(tactic| fail "none")
local macro_rules | `(tactic| walk_at "no such word") => `(tactic| fail "none")
local macro_rules | `(tactic| walk_at "no such word") => `(tactic| fail "none")
local macro_rules | `(tactic| walk_at "no such word") => `(tactic| fail "none")
local macro_rules | `(tactic| walk_at "no such word") => `(tactic| fail "none")
local macro_rules | `(tactic| walk_at "no such word") => `(tactic| fail "none")
local macro_rules | `(tactic| walk_at "no such word") => `(tactic| fail "none")
local macro_rules | `(tactic| walk_at "no such word") => `(tactic| fail "none")
local macro_rules | `(tactic| walk_at "no such word") => `(tactic| fail "none")
local macro_rules | `(tactic| walk_at "no such word") => `(tactic| fail "none")
local macro_rules | `(tactic| walk_at "no such word") => `(tactic| fail "none")
local macro_rules | `(tactic| walk_at "no such word") => `(tactic| fail "none")
local macro_rules | `(tactic| walk_at "no such word") => `(tactic| fail "none")
local macro_rules | `(tactic| walk_at "no such word") => `(tactic| fail "none")
local macro_rules | `(tactic| walk_at "no such word") => `(tactic| fail "none")
local macro_rules | `(tactic| walk_at "no such word") => `(tactic| fail "none")
local macro_rules | `(tactic| walk_at "no such word") => `(tactic| fail "none")
local macro_rules | `(tactic| walk_at "no such word") => `(tactic| fail "none")
local macro_rules | `(tactic| walk_at "no such word") => `(tactic| fail "none")
open PySem PySem.W PyProof.Rows
namespace Mine
example : PySem.Challenge.rw_vn0015_01 = PySem.Challenge.rw_vn0015_01 ∧ Mine.hd.heap_39 = Mine.hd.heap_39 := by
  k_fill
  exact ⟨rfl, rfl⟩

local macro_rules | `(tactic| k_memK) => `(tactic| assumption)
local macro_rules | `(tactic| kst_facts1) => `(tactic| first | exact IntsAre.nil | exact IntsAre.append (by with_reducible assumption) (.cons _ _ .nil) | with_reducible assumption | exact PyProof.Rows.StrsAre.nil | exact PyProof.Rows.StrsAre.append' (by with_reducible assumption) (.cons _ _ .nil))
local macro_rules | `(tactic| walk_at "call ref") => `(tactic| (k_here; (with_reducible show wpAny _ _ (call (Value.ref _) [Value.bytes _ _, Value.str _ _]) _ _ _); k_dflt (refine call_from (by k_asm) (by k_mem) (by assumption) (by omega) ?_); intro _ _))
local macro_rules | `(tactic| cell_enter) => `(tactic| (refine' code_def ?k1 ?k2 ?k3 ?k4 ?k5 ?kA ?kF ?kK ?k6 ?k7 ?k8 ?k9 ?kB ?_ ?c2 ?c3 ?c4 ?c5; (case kA => exact rfl); (case kF => exact rfl); (case kK => first | assumption | exact rfl); (case k1 => k_asm); (case k2 => k_asm); (case k3 => k_asm); (case k4 => k_asm); (case k5 => k_asm); (case k6 => k_is); (case k7 => k_is); (case k8 => ktr_room); (case k9 => first | exact BindsTo.of_eq rfl | exact binds_K (by k_in) rfl (by k_is) rfl rfl rfl); (case c5 => decide); (case kB => exact locs rfl); (case c2 => exact rfl); (case c3 => exact rfl); (case c4 => exact rfl); k_whole; intro g' L' h' FG' F' N' B' X' T'; (try dsimp only); (try k_lift B'); (try k_fold)))
local macro_rules | `(tactic| walk_at "call ref") => `(tactic| (k_here; (with_reducible show wpAny _ _ (call (Value.ref _) _) _ _ _); (refine wpAny_call ?_); k_dflt cell_enter))
local macro_rules | `(tactic| walk_at "getAttr int") => `(tactic| (k_here; (refine int_class ?_); intro _))
local macro_rules | `(tactic| walk_at "call builtin:hasattr") => `(tactic| (k_here; k_dflt (refine has_missF (by k_asm) (by k_asm) (by rfl) ?_); intro h' tk' F' N'; (try k_sweep)))
local macro_rules | `(tactic| walk_at "binaryOp Mod int int") => `(tactic| (k_here; (with_reducible refine mod_pos (by omega) ?_); intro _ _))
local macro_rules | `(tactic| walk_at "binaryOp FloorDiv int int") => `(tactic| (k_here; (with_reducible refine fdiv_small (by omega) (by omega) ?_); intro hq; (try (replace hq := hq (by omega)))))
local macro_rules | `(tactic| walk_at "binaryOp Pow int int") => `(tactic| (k_here; first | ((with_reducible refine pow2_f (by omega) (by omega) ?_); intro _ _) | ((with_reducible refine pow_f 2 (by omega) (by omega) (by omega) (by omega) (by omega) (by decide) ?_); intro _ _) | ((with_reducible refine pow_f 6 (by omega) (by omega) (by omega) (by omega) (by omega) (by decide) ?_); intro _ _)))
local macro_rules | `(tactic| walk_at "subscriptTail Name Constant ref int") => `(tactic| (k_here; (with_unfolding_all refine' item_list_ints ?k1 ?k2 ?k3 ?k4 ?k5 ?_); (case k1 => is_list); (case k2 => assumption); (case k3 => omega); (case k4 => (show _ < (5 : Int); omega)); (case k5 => omega); intro _; simp only [getD0, getD1]))
local macro_rules | `(tactic| walk_at "subscriptTail Name BinOp ref int") => `(tactic| (k_here; (with_unfolding_all refine' item_list_ints ?k1 ?k2 ?k3 ?k4 ?k5 ?_); (case k1 => is_list); (case k2 => assumption); (case k3 => omega); (case k4 => (show _ < (5 : Int); omega)); (case k5 => omega); intro _))
local macro_rules | `(tactic| walk_at "eval ListComp") => `(tactic| (k_here; (with_reducible show wpAny _ _ (eval (Expr.ListComp (Expr.BinOp _ _ _ _) _ _ _) _) _ _ _); k_dflt (lcf_look; lcg_calm; (refine LCg.ListComp_U (F₀ := by k_asm) (by with_unfolding_all rfl) (by decide) (by rfl) (by decide) (by rfl) ?_); lcg_toSrc)))
local macro_rules | `(tactic| walk_at "execs cons") => `(tactic| (k_here; (with_reducible show wpAny _ _ (execs (Stmt.For (Expr.Name (PySem.Str.ofString "padded") _) _ _ _ _ :: _) _) _ _ _); walk_say "STOP"; refine Stop.go ?_))

set_option maxHeartbeats 4000000 in
theorem law_6 {w : World} {oc' : Value} {od' : Option Addr} {osl' : Array (Option Value)} {name' qual' : PySem.Str} {params' : Arguments} {b' : List Stmt} {sc' : Scope} {dV' kV' doc' pm' cdv' ct' : Value} {an' : Option Addr}
    (e : (Mine.hd.heap_39 w.params).lookup 526 = some ⟨oc', od', .func (fnOf name' qual' params' b' sc' dV' kV' doc' pm' an' cdv' ct'), osl'⟩) (hn : LG7 b' sc') : LG6 b' sc' := by
  revert hn; refine' of_def (P := fun b sc => LG7 b sc → LG6 b sc) ?kE ?_ e
  case kE => k_is
  intro hn w dp un gd a ccd outer A₀ base h₀ L m s Q p loose mean mg mb D vs d0 d1 d2 d3 d4 o1 o2 n0  Bl F X N T hd hu c1 c2 hI hret
  dsimp only [List.drop]
  try k_fold
  k_steps
  all_goals unfold Stop
  all_goals (rename List Value => ys0; rename IntsAre _ _ => hI9; refine' hn (rv := ys0) (rn := ys0.length) Bl ?F X ?N T hd hu c1 ?c2 hI hret ?r ?n ?a ?b ?c ?d hI9 ?len ?nn)
  case F => assumption
  case r => exact (by (repeat (first | exact if_pos rfl | refine (if_neg (by decide)).trans ?_)))
  case n => exact (by (repeat (first | exact if_pos rfl | refine (if_neg (by decide)).trans ?_)))
  case c2 => assumption
  case N => exact (cb_drop (by assumption) (by intro p hp; simp only [List.mem_cons, List.not_mem_nil, or_false] at hp; rcases hp with rfl | rfl | rfl | rfl <;> (repeat (first | exact List.Mem.head _ | refine List.Mem.tail _ ?_))))
  case a => omega
  case b => omega
  case c => omega
  case d => omega
  case len => rw [List.length_map, rangeKs_length]; omega
  case nn =>
    intro x hx
    obtain ⟨k, hk, rfl⟩ := List.mem_map.mp hx
    have hk9 := mem_rangeKs hk
    split <;> omega

end Mine
end
section
example : True := by
  w_top off
  trivial
open PySem PySem.W PyProof.Rows
namespace Mine
example : PySem.Challenge.rw_vn0015_01 = PySem.Challenge.rw_vn0015_01 ∧ Mine.hd.heap_39 = Mine.hd.heap_39 := by
  k_fill
  exact ⟨rfl, rfl⟩

local macro_rules | `(tactic| k_memK) => `(tactic| assumption)
local macro_rules | `(tactic| kst_facts1) => `(tactic| first | exact IntsAre.nil | exact IntsAre.append (by with_reducible assumption) (.cons _ _ .nil) | with_reducible assumption | exact PyProof.Rows.StrsAre.nil | exact PyProof.Rows.StrsAre.append' (by with_reducible assumption) (.cons _ _ .nil))
local macro_rules | `(tactic| walk_at "call ref") => `(tactic| (k_here; (with_reducible show wpAny _ _ (call (Value.ref _) [Value.bytes _ _, Value.str _ _]) _ _ _); k_dflt (refine call_from (by k_asm) (by k_mem) (by assumption) (by omega) ?_); intro _ _))
local macro_rules | `(tactic| cell_enter) => `(tactic| (refine' code_def ?k1 ?k2 ?k3 ?k4 ?k5 ?kA ?kF ?kK ?k6 ?k7 ?k8 ?k9 ?kB ?_ ?c2 ?c3 ?c4 ?c5; (case kA => exact rfl); (case kF => exact rfl); (case kK => first | assumption | exact rfl); (case k1 => k_asm); (case k2 => k_asm); (case k3 => k_asm); (case k4 => k_asm); (case k5 => k_asm); (case k6 => k_is); (case k7 => k_is); (case k8 => ktr_room); (case k9 => first | exact BindsTo.of_eq rfl | exact binds_K (by k_in) rfl (by k_is) rfl rfl rfl); (case c5 => decide); (case kB => exact locs rfl); (case c2 => exact rfl); (case c3 => exact rfl); (case c4 => exact rfl); k_whole; intro g' L' h' FG' F' N' B' X' T'; (try dsimp only); (try k_lift B'); (try k_fold)))
local macro_rules | `(tactic| walk_at "call ref") => `(tactic| (k_here; (with_reducible show wpAny _ _ (call (Value.ref _) _) _ _ _); (refine wpAny_call ?_); k_dflt cell_enter))
local macro_rules | `(tactic| walk_at "getAttr int") => `(tactic| (k_here; (refine int_class ?_); intro _))
local macro_rules | `(tactic| walk_at "call builtin:hasattr") => `(tactic| (k_here; k_dflt (refine has_missF (by k_asm) (by k_asm) (by rfl) ?_); intro h' tk' F' N'; (try k_sweep)))
local macro_rules | `(tactic| walk_at "binaryOp Mod int int") => `(tactic| (k_here; (with_reducible refine mod_pos (by omega) ?_); intro _ _))
local macro_rules | `(tactic| walk_at "binaryOp FloorDiv int int") => `(tactic| (k_here; (with_reducible refine fdiv_small (by omega) (by omega) ?_); intro hq; (try (replace hq := hq (by omega)))))
local macro_rules | `(tactic| walk_at "binaryOp Pow int int") => `(tactic| (k_here; first | ((with_reducible refine pow2_f (by omega) (by omega) ?_); intro _ _) | ((with_reducible refine pow_f 2 (by omega) (by omega) (by omega) (by omega) (by omega) (by decide) ?_); intro _ _) | ((with_reducible refine pow_f 6 (by omega) (by omega) (by omega) (by omega) (by omega) (by decide) ?_); intro _ _)))
local macro_rules | `(tactic| walk_at "subscriptTail Name Constant ref int") => `(tactic| (k_here; (with_unfolding_all refine' item_list_ints ?k1 ?k2 ?k3 ?k4 ?k5 ?_); (case k1 => is_list); (case k2 => assumption); (case k3 => omega); (case k4 => (show _ < (5 : Int); omega)); (case k5 => omega); intro _; simp only [getD0, getD1]))
local macro_rules | `(tactic| walk_at "subscriptTail Name BinOp ref int") => `(tactic| (k_here; (with_unfolding_all refine' item_list_ints ?k1 ?k2 ?k3 ?k4 ?k5 ?_); (case k1 => is_list); (case k2 => assumption); (case k3 => omega); (case k4 => (show _ < (5 : Int); omega)); (case k5 => omega); intro _))
local macro_rules | `(tactic| walk_at "eval ListComp") => `(tactic| (k_here; (with_reducible show wpAny _ _ (eval (Expr.ListComp (Expr.BinOp _ _ _ _) _ _ _) _) _ _ _); k_dflt (lcf_look; lcg_calm; (refine LCg.ListComp_U (F₀ := by k_asm) (by with_unfolding_all rfl) (by decide) (by rfl) (by decide) (by rfl) ?_); lcg_toSrc)))

local macro_rules | `(tactic| walk_at "call ref") => `(tactic| (k_here; (with_reducible show wpAny _ _ (call (Value.ref 71) [Value.ref _, Value.int _ _, Value.int _ _, Value.bool _]) _ _ _); k_dflt (refine' conv_list_71 ?k1 ?k2 ?k3 ?k4 ?k5 ?kK ?kd ?ku ?kp0 ?kp1 ?kp2 ?kp3 ?kp4 ?kp5 ?kp6 ?_ ?_; (case k1 => k_asm); (case k2 => k_asm); (case k3 => k_asm); (case k4 => k_asm); (case k5 => k_asm); (case kK => first | exact rfl | assumption); (case kd => ktr_room); (case ku => ktr_units); (case kp0 => k_mem); (case kp1 => assumption); (case kp2 => omega); (case kp3 => omega); (case kp4 => omega); (case kp5 => omega); (case kp6 => omega)); (all_goals (first | (intro ys hC l vs1 n1 h1 k1 F1 N1 hi1 hlt1; k_dflt ((have hG := CBf.mk hC); (have hlen1 := IntsAre.length hi1))) | (intro hC h1 k1 F1 N1; k_dflt (have hG := CBf.mk hC)))); (all_goals try k_fold)))
local macro_rules | `(tactic| walk_at "call ref") => `(tactic| (k_here; (with_reducible show wpAny _ _ (call (Value.ref 79) [Value.ref _, Value.int _ _, Value.int _ _, Value.bool _]) _ _ _); k_dflt (refine' conv_list_79 ?k1 ?k2 ?k3 ?k4 ?k5 ?kK ?kd ?ku ?kp0 ?kp1 ?kp2 ?kp3 ?kp4 ?kp5 ?kp6 ?_ ?_; (case k1 => k_asm); (case k2 => k_asm); (case k3 => k_asm); (case k4 => k_asm); (case k5 => k_asm); (case kK => first | exact rfl | assumption); (case kd => ktr_room); (case ku => ktr_units); (case kp0 => k_mem); (case kp1 => assumption); (case kp2 => omega); (case kp3 => omega); (case kp4 => omega); (case kp5 => omega); (case kp6 => omega)); (all_goals (first | (intro ys hC l vs1 n1 h1 k1 F1 N1 hi1 hlt1; k_dflt ((rename CBf _ _ _ _ _ => hG); (have hEq := cb_unique (by omega) (by omega) hG.h hC); (first | (cases hEq; done) | ((have hEq2 := (Option.some.inj hEq)); clear hEq; clear hC; subst hEq2)))) | (intro hC h1 k1 F1 N1; k_dflt ((rename CBf _ _ _ _ _ => hG); (have hEq := cb_unique (by omega) (by omega) hG.h hC); first | (cases hEq; done) | clear hEq hC)))); (all_goals try k_fold)))
local macro_rules | `(tactic| walk_at "call ref") => `(tactic| (k_here; (with_reducible show wpAny _ _ (call (Value.ref 521) [Value.ref _, Value.int _ _]) _ _ _); k_dflt (refine' value_list ?k1 ?k2 ?k3 ?k4 ?k5 ?kK ?kd ?ku ?kp0 ?kp1 ?kp2 ?_; (case k1 => k_asm); (case k2 => k_asm); (case k3 => k_asm); (case k4 => k_asm); (case k5 => k_asm); (case kK => first | exact rfl | assumption); (case kd => ktr_room); (case ku => ktr_units); (case kp0 => k_mem); (case kp1 => assumption); (case kp2 => first | exact mul_told (by with_reducible assumption) (by omega) (by omega) (by omega) (by omega) (by omega) | exact mul_row (by with_reducible assumption) (by omega) (by omega) (by omega) (by omega) (by omega))); intro _ _ _ kF9 kN9; (try k_fold)))
local macro_rules | `(tactic| walk_at "eval ListComp") => `(tactic| (k_here; (with_reducible show wpAny _ _ (eval (Expr.ListComp (Expr.Name _ _) _ _ _) _) _ _ _); k_dflt (refine' ListComp_F (p := ‹Int → Bool›) (F₀ := by k_asm) (by with_unfolding_all rfl) (by decide) (by rfl) (by decide) (by rfl) ?_)))
local macro_rules | `(tactic| walk_at "call builtin:len") => `(tactic| (k_here; (with_reducible show wpAny _ _ (call (Value.builtin "len") [Value.ref _]) _ _ _); k_dflt (refine' len_told ?l ?i ?c ?o1 ?o2 ?o3 ?o4 ?o5 ?_; (case l => is_list); (case i => assumption); (case c => with_reducible assumption); (case o1 => omega); (case o2 => omega); (case o3 => omega); (case o4 => omega); (case o5 => omega))))
local macro_rules | `(tactic| walk_at "SrcF") => `(tactic| (k_here; k_dflt (refine' ⟨_, _, _, _, _, rfl, rfl, ?k2, ?k3, ?km, ?ki, ?kl, ?_, ?_, ?_⟩; (case k2 => k_asm); (case k3 => k_asm); (case km => k_mem); (case ki => assumption); (case kl => omega)); (all_goals intros)))
local macro_rules | `(tactic| walk_at "TsF") => `(tactic| (k_here; k_dflt (exact ⟨_, _, congrFun (Eq.symm (by assumption : _ = fun _ => decide _)) _, rfl, by k_asm, by k_asm⟩)))
local macro_rules | `(tactic| walk_at "El58") => `(tactic| (k_here; k_dflt (exact ⟨_, _, _, rfl, rfl, by k_asm, by k_asm⟩)))
local macro_rules | `(tactic| walk_at "KPfGrows") => `(tactic| (k_here; exact grows _))
local macro_rules | `(tactic| walk_at "binaryOp Pow int int") => `(tactic| (k_here; first | ((with_reducible refine pow2_f (by omega) (by omega) ?_); intro _ _) | (with_reducible refine pow_plain (exp_true (by with_reducible assumption) (by omega) (by omega) (by omega) (by omega) (by omega)).1 (exp_true (by with_reducible assumption) (by omega) (by omega) (by omega) (by omega) (by omega)).2 ?_) | (with_reducible refine pow_plain (exp_false (by with_reducible assumption) (by omega) (by omega) (by omega) (by omega) (by omega)).1 (exp_false (by with_reducible assumption) (by omega) (by omega) (by omega) (by omega) (by omega)).2 ?_)))
local macro_rules | `(tactic| walk_at "binaryOp Mult int int") => `(tactic| (k_here; (with_reducible show wpAny _ _ (binaryOp Operator.Mult (Value.int (val _ _) _) (Value.int _ _)) _ _ _); (with_reducible refine PyProof.Rows.mul_int ?_ (by first | exact ok_row (by with_reducible assumption) (by omega) (by omega) (by omega) (by omega) (by omega) one_bits | exact ok_told (by with_reducible assumption) (by omega) (by omega) (by omega) (by omega) (by omega) one_bits | exact ok_row (by with_reducible assumption) (by omega) (by omega) (by omega) (by omega) (by omega) (bits_true (by with_reducible assumption) (by omega) (by omega) (by omega) (by omega) (by omega)) | exact ok_told (by with_reducible assumption) (by omega) (by omega) (by omega) (by omega) (by omega) (bits_false (by with_reducible assumption) (by omega) (by omega) (by omega) (by omega) (by omega))))))
local macro_rules | `(tactic| walk_at "ite") => `(tactic| (k_here; exfalso; k_dflt (first | (exact absurd rfl (by with_reducible assumption)) | omega)))
local macro_rules | `(tactic| walk_at "execs cons") => `(tactic| (k_here; (with_reducible show wpAny _ _ (execs [Stmt.Return _ _] _) _ _ _); exfalso; k_dflt (first | (exact absurd rfl (by with_reducible assumption)) | exact leaf_none (by with_reducible assumption) (by with_reducible assumption) (by with_reducible assumption) (by with_reducible assumption) (by with_reducible assumption) (by with_reducible assumption) | exact leaf_some (by with_reducible assumption) (by with_reducible assumption) (by with_reducible assumption) (by with_reducible assumption) (by with_reducible assumption) | exact end_true (by with_reducible assumption) (by omega) (by omega) (by omega) (by omega) (by omega) (by with_reducible assumption) | exact end_false (by with_reducible assumption) (by omega) (by omega) (by omega) (by omega) (by omega) (by with_reducible assumption) | omega)))

set_option maxHeartbeats 4000000 in
theorem law_7 {w : World} {oc' : Value} {od' : Option Addr} {osl' : Array (Option Value)} {name' qual' : PySem.Str} {params' : Arguments} {b' : List Stmt} {sc' : Scope} {dV' kV' doc' pm' cdv' ct' : Value} {an' : Option Addr}
    (e : (Mine.hd.heap_39 w.params).lookup 526 = some ⟨oc', od', .func (fnOf name' qual' params' b' sc' dV' kV' doc' pm' an' cdv' ct'), osl'⟩) : LG7 b' sc' := by
  refine' of_def (P := LG7) ?kE ?_ e
  case kE => k_is
  intro w dp un gd a ccd outer A₀ base h₀ L m s Q p loose mean mg mb D vs d0 d1 d2 d3 d4 o1 o2 n0 wd nr tw tr R rv rn rs Bl F X N T hd hu c1 c2 hI hret mR mN hw1 hw2 hn1 hn2 hrv hrl hr0
  dsimp only [List.drop]
  try k_fold
  replace F := fr_put2 mR mN F
  have hrvl := IntsAre.length hrv
  obtain ⟨pw9, hpw9⟩ : ∃ p : Int → Bool, p = fun k => decide ((2 : Int) ^ wd.toNat ≤ k) := ⟨_, rfl⟩
  k_steps
  all_goals exact hret _ _ ⟨_, by assumption⟩
end Mine
end
section
example : True := by
  w_top off
  trivial
local macro_rules | `(tactic| walk_at "no such word") => `(tactic| fail "none")
local macro_rules | `(tactic| walk_at "no such word") => `(tactic| fail "none")
local macro_rules | `(tactic| walk_at "no such word") => `(tactic| fail "none")
local macro_rules | `(tactic| walk_at "no such word") => `(tactic| fail "none")
local macro_rules | `(tactic| walk_at "no such word") => `(tactic| fail "none")
local macro_rules | `(tactic| walk_at "no such word") => `(tactic| fail "none")
local macro_rules | `(tactic| walk_at "no such word") => `(tactic| fail "none")
local macro_rules | `(tactic| walk_at "no such word") => `(tactic| fail "none")
local macro_rules | `(tactic| walk_at "no such word") => `(tactic| fail "none")
local macro_rules | `(tactic| walk_at "no such word") => `(tactic| fail "none")
local macro_rules | `(tactic| walk_at "no such word") => `(tactic| fail "none")
local macro_rules | `(tactic| walk_at "no such word") => `(tactic| fail "none")
local macro_rules | `(tactic| walk_at "no such word") => `(tactic| fail "none")
local macro_rules | `(tactic| walk_at "no such word") => `(tactic| fail "none")
local macro_rules | `(tactic| walk_at "no such word") => `(tactic| fail "none")
local macro_rules | `(tactic| walk_at "no such word") => `(tactic| fail "none")
local macro_rules | `(tactic| walk_at "no such word") => `(tactic| fail "none")
local macro_rules | `(tactic| walk_at "no such word") => `(tactic| fail "none")
local macro_rules | `(tactic| walk_at "no such word") => `(tactic| fail "none")
local macro_rules | `(tactic| walk_at "no such word") => `(tactic| fail "none")
local macro_rules | `(tactic| walk_at "no such word") => `(tactic| fail "none")
local macro_rules | `(tactic| walk_at "no such word") => `(tactic| fail "none")
local macro_rules | `(tactic| walk_at "no such word") => `(tactic| fail "none")
local macro_rules | `(tactic| walk_at "no such word") => `(tactic| fail "none")
local macro_rules | `(tactic| walk_at "no such word") => `(tactic| fail "none")
local macro_rules | `(tactic| walk_at "no such word") => `(tactic| fail "none")
local macro_rules | `(tactic| walk_at "no such word") => `(tactic| fail "none")
local macro_rules | `(tactic| walk_at "no such word") => `(tactic| fail "none")
local macro_rules | `(tactic| walk_at "no such word") => `(tactic| fail "none")
local macro_rules | `(tactic| walk_at "no such word") => `(tactic| fail "none")
local macro_rules | `(tactic| walk_at "no such word") => `(tactic| fail "none")
local macro_rules | `(tactic| walk_at "no such word") => `(tactic| fail "none")
local macro_rules | `(tactic| walk_at "no such word") => `(tactic| fail "none")
local macro_rules | `(tactic| walk_at "no such word") => `(tactic| fail "none")
local macro_rules | `(tactic| walk_at "no such word") => `(tactic| fail "none")
local macro_rules | `(tactic| walk_at "no such word") => `(tactic| fail "none")
local macro_rules | `(tactic| walk_at "no such word") => `(tactic| fail "none")
local macro_rules | `(tactic| walk_at "no such word") => `(tactic| fail "none")
local macro_rules | `(tactic| walk_at "no such word") => `(tactic| fail "none")
local macro_rules | `(tactic| walk_at "no such word") => `(tactic| fail "none")
open PySem PySem.W PyProof.Rows
namespace Mine
example : PySem.Challenge.rw_vn0015_01 = PySem.Challenge.rw_vn0015_01 ∧ Mine.hd.heap_39 = Mine.hd.heap_39 := by
  k_fill
  exact ⟨rfl, rfl⟩

local macro_rules | `(tactic| k_memK) => `(tactic| assumption)
local macro_rules | `(tactic| kst_facts1) => `(tactic| first | exact IntsAre.nil | exact IntsAre.append (by with_reducible assumption) (.cons _ _ .nil) | with_reducible assumption | exact PyProof.Rows.StrsAre.nil | exact PyProof.Rows.StrsAre.append' (by with_reducible assumption) (.cons _ _ .nil))
local macro_rules | `(tactic| walk_at "call ref") => `(tactic| (k_here; (with_reducible show wpAny _ _ (call (Value.ref _) [Value.bytes _ _, Value.str _ _]) _ _ _); k_dflt (refine call_from (by k_asm) (by k_mem) (by assumption) (by omega) ?_); intro _ _))
local macro_rules | `(tactic| cell_enter) => `(tactic| (refine' code_def ?k1 ?k2 ?k3 ?k4 ?k5 ?kA ?kF ?kK ?k6 ?k7 ?k8 ?k9 ?kB ?_ ?c2 ?c3 ?c4 ?c5; (case kA => exact rfl); (case kF => exact rfl); (case kK => first | assumption | exact rfl); (case k1 => k_asm); (case k2 => k_asm); (case k3 => k_asm); (case k4 => k_asm); (case k5 => k_asm); (case k6 => k_is); (case k7 => k_is); (case k8 => ktr_room); (case k9 => first | exact BindsTo.of_eq rfl | exact binds_K (by k_in) rfl (by k_is) rfl rfl rfl); (case c5 => decide); (case kB => exact locs rfl); (case c2 => exact rfl); (case c3 => exact rfl); (case c4 => exact rfl); k_whole; intro g' L' h' FG' F' N' B' X' T'; (try dsimp only); (try k_lift B'); (try k_fold)))
local macro_rules | `(tactic| walk_at "call ref") => `(tactic| (k_here; (with_reducible show wpAny _ _ (call (Value.ref _) _) _ _ _); (refine wpAny_call ?_); k_dflt cell_enter))
local macro_rules | `(tactic| walk_at "getAttr int") => `(tactic| (k_here; (refine int_class ?_); intro _))
local macro_rules | `(tactic| walk_at "call builtin:hasattr") => `(tactic| (k_here; k_dflt (refine has_missF (by k_asm) (by k_asm) (by rfl) ?_); intro h' tk' F' N'; (try k_sweep)))
local macro_rules | `(tactic| walk_at "execs cons") => `(tactic| (k_here; (with_reducible show wpAny _ _ (execs (Stmt.Assign [Expr.Tuple [Expr.Name (PySem.Str.ofString "noughts") _, _] _ _] _ _ :: _) _) _ _ _); walk_say "STOP"; refine Stop.go ?_))

theorem law_all {w : World} {oc' : Value} {od' : Option Addr} {osl' : Array (Option Value)} {name' qual' : PySem.Str} {params' : Arguments} {b' : List Stmt} {sc' : Scope} {dV' kV' doc' pm' cdv' ct' : Value} {an' : Option Addr}
    (e : (Mine.hd.heap_39 w.params).lookup 526 = some ⟨oc', od', .func (fnOf name' qual' params' b' sc' dV' kV' doc' pm' an' cdv' ct'), osl'⟩) : LG1 b' sc' :=
  law_1 e (law_2 e (law_3 e (law_4 e (law_5 e (law_6 e (law_7 e))))))
theorem ints5 {ys : List Value} {f : Int → Int} {n : Nat} (hn : n = 5) (h : IntsAre ys (List.map f (rangeKs 0 n))) : IntsAre ys [f 0, f 1, f 2, f 3, f 4] := by subst hn; exact h
theorem news3 {h₀ h : Heap} {L : Addr} {a b c d : Addr × Obj} (N : News h₀ L h [a, b, c, d]) : News h₀ L h [a, c, d] :=
  cb_drop N (by intro p hp; simp only [List.mem_cons, List.not_mem_nil, or_false] at hp ⊢; rcases hp with e | e | e <;> simp [e])
theorem to_top {prog : Program} {w : World} {n : PySem.Str} {sc : Scope} {L a : Addr} {cd : Value} {t : Sem Flow} {Q : Flow → Shared → Prop} {E : Value → Shared → Prop} {s : Shared}
    (h : wpAny (model prog w) (ktrTop (callerA.depth + 1) (callerA.deeper (envOfC n sc L a cd)).units (callerA.deeper (envOfC n sc L a cd)).guards n sc L a cd (cellsFrom (L + 1) sc.names []) []) t Q E s) :
    wpAny (model prog w) (callerA.deeper (envOfC n sc L a cd)) t Q E s := h
set_option maxHeartbeats 8000000 in
theorem test : PySem.Challenge.rw_vn0015_01.Holds := Mine.hd (by
  k_go0
  all_goals try k_fold
  k_steps
  all_goals unfold Stop
  all_goals refine to_top ?_
  all_goals refine' (fun hl => ?main) (law_all (w := ‹World›) ?le)
  case le => k_is
  case main =>
    refine' wpAny_mono (hl ?lB ?lF ?lX ?lN ?lT ?ld ?lu ?l1 ?l2 ?lI ?lr) (fun _ _ h => h) (fun _ _ h => False.elim h)
    case lB => assumption
    case lF => k_asm
    case lX => k_asm
    case lN => exact news3 (by assumption)
    case lT => k_asm
    case ld => ktr_room
    case lu => ktr_units
    case l1 => assumption
    case lI => exact ints5 (by rfl) (by assumption)
    case l2 =>
      refine Eq.trans (b := Data.cell ?z) ?q ?r
      case q => assumption
      case r => first | rfl | with_unfolding_all rfl
    case lr =>
      rintro h' tk' ⟨m', F'⟩
      first | (k_end; wrow_close) | (dsimp only; k_end; wrow_close) | (k_unfold; dsimp only; k_end; wrow_close) | (k_unfold; wrow_close) | wrow_close)
end Mine
end
theorem PySem.Challenge.cw_vn0015_01_holds : PySem.Challenge.rw_vn0015_01.Holds :=
  Mine.test
