import PyProof.Rows.All
import Wide.All
import OpenK.AllK
import Wide.FinOn
import PySem.Challenge.RW_pd0010_01
set_option Elab.async false
set_option linter.all false
section
open PySem PySem.W PyProof.Rows
set_option maxRecDepth 100000
set_option maxHeartbeats 8000000
namespace Mine
/-- the function that the text's statement i makes, as the top leaves it -/
noncomputable def fo (i t c : Nat) (m : String) : Obj := match PySem.Challenge.pw_pd0010_01.main.body[i]? with
  | some (PySem.Stmt.FunctionDef n args body _ _ _ scope _ _ _) => { cls := .type "function", data := .func (fnOf n n args body scope .none .none .none (.str (Str.ofString m) t) none (.ref c) .none) }
  | _ => default
noncomputable def o3 (P : Params) : Obj :=
  { cls := Value.type "dict", data := Data.dict (List.toArray ({ hash := PyData.keyHash P (Str.ofString "__name__"), key := Value.str (Str.ofString "__name__") 165, val := Value.str (Str.ofString "law_pd0010_01") 400 } :: { hash := PyData.keyHash P (Str.ofString "__doc__"), key := Value.str (Str.ofString "__doc__") 166, val := Value.none } :: { hash := PyData.keyHash P (Str.ofString "__package__"), key := Value.str (Str.ofString "__package__") 167, val := Value.none } :: { hash := PyData.keyHash P (Str.ofString "__loader__"), key := Value.str (Str.ofString "__loader__") 168, val := Value.builtin "__main__.__loader__#opaque" } :: { hash := PyData.keyHash P (Str.ofString "__spec__"), key := Value.str (Str.ofString "__spec__") 169, val := Value.none } :: { hash := PyData.keyHash P (Str.ofString "__annotations__"), key := Value.str (Str.ofString "__annotations__") 170, val := Value.ref 6 } :: { hash := PyData.keyHash P (Str.ofString "__builtins__"), key := Value.str (Str.ofString "__builtins__") 171, val := Value.ref 4 } :: { hash := PyData.keyHash P (Str.ofString "__file__"), key := Value.str (Str.ofString "__file__") 173, val := Value.str (Str.ofString "/claim/cut.py") 172 } :: { hash := PyData.keyHash P (Str.ofString "__cached__"), key := Value.str (Str.ofString "__cached__") 174, val := Value.none } :: { hash := PyData.keyHash P (Str.ofString "_wall"), key := Value.str (Str.ofString "_wall") 193, val := Value.ref 21 } :: { hash := PyData.keyHash P (Str.ofString "_plain_name"), key := Value.str (Str.ofString "_plain_name") 204, val := Value.ref 28 } :: { hash := PyData.keyHash P (Str.ofString "ABCMeta"), key := Value.str (Str.ofString "ABCMeta") 230, val := Value.ref 45 } :: { hash := PyData.keyHash P (Str.ofString "_ABCLike"), key := Value.str (Str.ofString "_ABCLike") 273, val := Value.ref 78 } :: { hash := PyData.keyHash P (Str.ofString "_abc_plain_meta"), key := Value.str (Str.ofString "_abc_plain_meta") 280, val := Value.ref 87 } :: { hash := PyData.keyHash P (Str.ofString "fspath"), key := Value.str (Str.ofString "fspath") 292, val := Value.ref 94 } :: { hash := PyData.keyHash P (Str.ofString "_check_arg_types"), key := Value.str (Str.ofString "_check_arg_types") 305, val := Value.ref 101 } :: { hash := PyData.keyHash P (Str.ofString "_get_sep"), key := Value.str (Str.ofString "_get_sep") 314, val := Value.ref 108 } :: { hash := PyData.keyHash P (Str.ofString "join"), key := Value.str (Str.ofString "join") 325, val := Value.ref 115 } :: { hash := PyData.keyHash P (Str.ofString "split"), key := Value.str (Str.ofString "split") 336, val := Value.ref 122 } :: { hash := PyData.keyHash P (Str.ofString "splitroot"), key := Value.str (Str.ofString "splitroot") 345, val := Value.ref 129 } :: { hash := PyData.keyHash P (Str.ofString "normpath"), key := Value.str (Str.ofString "normpath") 360, val := Value.ref 136 } :: { hash := PyData.keyHash P (Str.ofString "_ctoi"), key := Value.str (Str.ofString "_ctoi") 369, val := Value.ref 143 } :: { hash := PyData.keyHash P (Str.ofString "isprint"), key := Value.str (Str.ofString "isprint") 376, val := Value.ref 150 } :: { hash := PyData.keyHash P (Str.ofString "ismeta"), key := Value.str (Str.ofString "ismeta") 383, val := Value.ref 157 } :: { hash := PyData.keyHash P (Str.ofString "alt"), key := Value.str (Str.ofString "alt") 390, val := Value.ref 164 } :: { hash := PyData.keyHash P (Str.ofString "unctrl"), key := Value.str (Str.ofString "unctrl") 399, val := Value.ref 171 } :: { hash := PyData.keyHash P (Str.ofString "_law_inner"), key := Value.str (Str.ofString "_law_inner") 412, val := Value.ref 178 } :: { hash := PyData.keyHash P (Str.ofString "_law_part"), key := Value.str (Str.ofString "_law_part") 420, val := Value.ref 185 } :: { hash := PyData.keyHash P (Str.ofString "_law_signs"), key := Value.str (Str.ofString "_law_signs") 426, val := Value.ref 190 } :: { hash := PyData.keyHash P (Str.ofString "_law_octets"), key := Value.str (Str.ofString "_law_octets") 432, val := Value.ref 195 } :: { hash := PyData.keyHash P (Str.ofString "_law_climbed"), key := Value.str (Str.ofString "_law_climbed") 438, val := Value.ref 200 } :: { hash := PyData.keyHash P (Str.ofString "_law_front"), key := Value.str (Str.ofString "_law_front") 446, val := Value.ref 207 } :: { hash := PyData.keyHash P (Str.ofString "_law_left"), key := Value.str (Str.ofString "_law_left") 452, val := Value.ref 212 } :: { hash := PyData.keyHash P (Str.ofString "law"), key := Value.str (Str.ofString "law") 458, val := Value.ref 217 } :: [])) 34 }
noncomputable def co93 : Obj :=
  { cls := Value.type "code", data := Data.fields #[Value.str (Str.ofString "fspath") 283, Value.str (Str.ofString "fspath") 284, Value.str (Str.ofString "/claim/cut.py") 285, Value.int 35 0, Value.int 1 0, Value.int 0 0, Value.int 0 0, Value.int 3 0, Value.ref 88, Value.bool true, Value.int 181 0, Value.ref 89, Value.none, Value.ref 90, Value.ref 91, Value.ref 92, Value.int 290 0, Value.int 35 0, Value.str (Str.ofString "/claim/cut.py") 291] }
noncomputable def co107 : Obj :=
  { cls := Value.type "code", data := Data.fields #[Value.str (Str.ofString "_get_sep") 308, Value.str (Str.ofString "_get_sep") 309, Value.str (Str.ofString "/claim/cut.py") 310, Value.int 64 0, Value.int 1 0, Value.int 0 0, Value.int 0 0, Value.int 3 0, Value.ref 102, Value.bool true, Value.int 181 0, Value.ref 103, Value.none, Value.ref 104, Value.ref 105, Value.ref 106, Value.int 312 0, Value.int 64 0, Value.str (Str.ofString "/claim/cut.py") 313] }
noncomputable def co114 : Obj :=
  { cls := Value.type "code", data := Data.fields #[Value.str (Str.ofString "join") 315, Value.str (Str.ofString "join") 316, Value.str (Str.ofString "/claim/cut.py") 317, Value.int 69 0, Value.int 1 0, Value.int 0 0, Value.int 0 0, Value.int 7 0, Value.ref 109, Value.bool true, Value.int 181 0, Value.ref 110, Value.none, Value.ref 111, Value.ref 112, Value.ref 113, Value.int 323 0, Value.int 69 0, Value.str (Str.ofString "/claim/cut.py") 324] }
noncomputable def co121 : Obj :=
  { cls := Value.type "code", data := Data.fields #[Value.str (Str.ofString "split") 326, Value.str (Str.ofString "split") 327, Value.str (Str.ofString "/claim/cut.py") 328, Value.int 86 0, Value.int 1 0, Value.int 0 0, Value.int 0 0, Value.int 3 0, Value.ref 116, Value.bool true, Value.int 181 0, Value.ref 117, Value.none, Value.ref 118, Value.ref 119, Value.ref 120, Value.int 334 0, Value.int 86 0, Value.str (Str.ofString "/claim/cut.py") 335] }
noncomputable def co128 : Obj :=
  { cls := Value.type "code", data := Data.fields #[Value.str (Str.ofString "splitroot") 337, Value.str (Str.ofString "splitroot") 338, Value.str (Str.ofString "/claim/cut.py") 339, Value.int 94 0, Value.int 1 0, Value.int 0 0, Value.int 0 0, Value.int 3 0, Value.ref 123, Value.bool true, Value.int 181 0, Value.ref 124, Value.none, Value.ref 125, Value.ref 126, Value.ref 127, Value.int 343 0, Value.int 94 0, Value.str (Str.ofString "/claim/cut.py") 344] }
noncomputable def co135 : Obj :=
  { cls := Value.type "code", data := Data.fields #[Value.str (Str.ofString "normpath") 346, Value.str (Str.ofString "normpath") 347, Value.str (Str.ofString "/claim/cut.py") 348, Value.int 108 0, Value.int 1 0, Value.int 0 0, Value.int 0 0, Value.int 3 0, Value.ref 130, Value.bool true, Value.int 181 0, Value.ref 131, Value.none, Value.ref 132, Value.ref 133, Value.ref 134, Value.int 358 0, Value.int 108 0, Value.str (Str.ofString "/claim/cut.py") 359] }
noncomputable def co142 : Obj :=
  { cls := Value.type "code", data := Data.fields #[Value.str (Str.ofString "_ctoi") 363, Value.str (Str.ofString "_ctoi") 364, Value.str (Str.ofString "/claim/cut.py") 365, Value.int 134 0, Value.int 1 0, Value.int 0 0, Value.int 0 0, Value.int 3 0, Value.ref 137, Value.bool true, Value.int 181 0, Value.ref 138, Value.none, Value.ref 139, Value.ref 140, Value.ref 141, Value.int 367 0, Value.int 134 0, Value.str (Str.ofString "/claim/cut.py") 368] }
noncomputable def co149 : Obj :=
  { cls := Value.type "code", data := Data.fields #[Value.str (Str.ofString "isprint") 370, Value.str (Str.ofString "isprint") 371, Value.str (Str.ofString "/claim/cut.py") 372, Value.int 139 0, Value.int 1 0, Value.int 0 0, Value.int 0 0, Value.int 3 0, Value.ref 144, Value.bool true, Value.int 181 0, Value.ref 145, Value.none, Value.ref 146, Value.ref 147, Value.ref 148, Value.int 374 0, Value.int 139 0, Value.str (Str.ofString "/claim/cut.py") 375] }
noncomputable def co156 : Obj :=
  { cls := Value.type "code", data := Data.fields #[Value.str (Str.ofString "ismeta") 377, Value.str (Str.ofString "ismeta") 378, Value.str (Str.ofString "/claim/cut.py") 379, Value.int 141 0, Value.int 1 0, Value.int 0 0, Value.int 0 0, Value.int 3 0, Value.ref 151, Value.bool true, Value.int 181 0, Value.ref 152, Value.none, Value.ref 153, Value.ref 154, Value.ref 155, Value.int 381 0, Value.int 141 0, Value.str (Str.ofString "/claim/cut.py") 382] }
noncomputable def co163 : Obj :=
  { cls := Value.type "code", data := Data.fields #[Value.str (Str.ofString "alt") 384, Value.str (Str.ofString "alt") 385, Value.str (Str.ofString "/claim/cut.py") 386, Value.int 143 0, Value.int 1 0, Value.int 0 0, Value.int 0 0, Value.int 3 0, Value.ref 158, Value.bool true, Value.int 181 0, Value.ref 159, Value.none, Value.ref 160, Value.ref 161, Value.ref 162, Value.int 388 0, Value.int 143 0, Value.str (Str.ofString "/claim/cut.py") 389] }
noncomputable def co170 : Obj :=
  { cls := Value.type "code", data := Data.fields #[Value.str (Str.ofString "unctrl") 391, Value.str (Str.ofString "unctrl") 392, Value.str (Str.ofString "/claim/cut.py") 393, Value.int 148 0, Value.int 1 0, Value.int 0 0, Value.int 0 0, Value.int 3 0, Value.ref 165, Value.bool true, Value.int 181 0, Value.ref 166, Value.none, Value.ref 167, Value.ref 168, Value.ref 169, Value.int 397 0, Value.int 148 0, Value.str (Str.ofString "/claim/cut.py") 398] }
noncomputable def co177 : Obj :=
  { cls := Value.type "code", data := Data.fields #[Value.str (Str.ofString "_law_inner") 402, Value.str (Str.ofString "_law_inner") 403, Value.str (Str.ofString "/claim/cut.py") 404, Value.int 160 0, Value.int 1 0, Value.int 0 0, Value.int 0 0, Value.int 3 0, Value.ref 172, Value.bool true, Value.int 181 0, Value.ref 173, Value.none, Value.ref 174, Value.ref 175, Value.ref 176, Value.int 410 0, Value.int 160 0, Value.str (Str.ofString "/claim/cut.py") 411] }
noncomputable def co184 : Obj :=
  { cls := Value.type "code", data := Data.fields #[Value.str (Str.ofString "_law_part") 413, Value.str (Str.ofString "_law_part") 414, Value.str (Str.ofString "/claim/cut.py") 415, Value.int 169 0, Value.int 1 0, Value.int 0 0, Value.int 0 0, Value.int 3 0, Value.ref 179, Value.bool true, Value.int 181 0, Value.ref 180, Value.none, Value.ref 181, Value.ref 182, Value.ref 183, Value.int 418 0, Value.int 169 0, Value.str (Str.ofString "/claim/cut.py") 419] }
noncomputable def co189 : Obj :=
  { cls := Value.type "code", data := Data.fields #[Value.str (Str.ofString "_law_signs") 421, Value.str (Str.ofString "_law_signs") 422, Value.str (Str.ofString "/claim/cut.py") 423, Value.int 172 0, Value.int 1 0, Value.int 0 0, Value.int 0 0, Value.int 3 0, Value.ref 186, Value.bool true, Value.int 181 0, Value.ref 187, Value.none, Value.none, Value.none, Value.ref 188, Value.int 424 0, Value.int 172 0, Value.str (Str.ofString "/claim/cut.py") 425] }
noncomputable def co194 : Obj :=
  { cls := Value.type "code", data := Data.fields #[Value.str (Str.ofString "_law_octets") 427, Value.str (Str.ofString "_law_octets") 428, Value.str (Str.ofString "/claim/cut.py") 429, Value.int 174 0, Value.int 1 0, Value.int 0 0, Value.int 0 0, Value.int 3 0, Value.ref 191, Value.bool true, Value.int 181 0, Value.ref 192, Value.none, Value.none, Value.none, Value.ref 193, Value.int 430 0, Value.int 174 0, Value.str (Str.ofString "/claim/cut.py") 431] }
noncomputable def co199 : Obj :=
  { cls := Value.type "code", data := Data.fields #[Value.str (Str.ofString "_law_climbed") 433, Value.str (Str.ofString "_law_climbed") 434, Value.str (Str.ofString "/claim/cut.py") 435, Value.int 176 0, Value.int 1 0, Value.int 0 0, Value.int 0 0, Value.int 3 0, Value.ref 196, Value.bool true, Value.int 181 0, Value.ref 197, Value.none, Value.none, Value.none, Value.ref 198, Value.int 436 0, Value.int 176 0, Value.str (Str.ofString "/claim/cut.py") 437] }
noncomputable def co206 : Obj :=
  { cls := Value.type "code", data := Data.fields #[Value.str (Str.ofString "_law_front") 439, Value.str (Str.ofString "_law_front") 440, Value.str (Str.ofString "/claim/cut.py") 441, Value.int 183 0, Value.int 1 0, Value.int 0 0, Value.int 0 0, Value.int 3 0, Value.ref 201, Value.bool true, Value.int 181 0, Value.ref 202, Value.none, Value.ref 203, Value.ref 204, Value.ref 205, Value.int 444 0, Value.int 183 0, Value.str (Str.ofString "/claim/cut.py") 445] }
noncomputable def co211 : Obj :=
  { cls := Value.type "code", data := Data.fields #[Value.str (Str.ofString "_law_left") 447, Value.str (Str.ofString "_law_left") 448, Value.str (Str.ofString "/claim/cut.py") 449, Value.int 188 0, Value.int 1 0, Value.int 0 0, Value.int 0 0, Value.int 3 0, Value.ref 208, Value.bool true, Value.int 181 0, Value.ref 209, Value.none, Value.none, Value.none, Value.ref 210, Value.int 450 0, Value.int 188 0, Value.str (Str.ofString "/claim/cut.py") 451] }
noncomputable def co216 : Obj :=
  { cls := Value.type "code", data := Data.fields #[Value.str (Str.ofString "law") 453, Value.str (Str.ofString "law") 454, Value.str (Str.ofString "/claim/cut.py") 455, Value.int 203 0, Value.int 1 0, Value.int 0 0, Value.int 0 0, Value.int 3 0, Value.ref 213, Value.bool true, Value.int 181 0, Value.ref 214, Value.none, Value.none, Value.none, Value.ref 215, Value.int 456 0, Value.int 203 0, Value.str (Str.ofString "/claim/cut.py") 457] }
noncomputable def KK : Params → Frag := fun P => (nat_lit 3, o3 P) :: (nat_lit 93, co93) :: (nat_lit 94, fo 9 281 93 "os") :: (nat_lit 107, co107) :: (nat_lit 108, fo 13 306 107 "cpy313.posixpath") :: (nat_lit 114, co114) :: (nat_lit 115, fo 14 306 114 "cpy313.posixpath") :: (nat_lit 121, co121) :: (nat_lit 122, fo 15 306 121 "cpy313.posixpath") :: (nat_lit 128, co128) :: (nat_lit 129, fo 16 306 128 "cpy313.posixpath") :: (nat_lit 135, co135) :: (nat_lit 136, fo 17 306 135 "cpy313.posixpath") :: (nat_lit 142, co142) :: (nat_lit 143, fo 19 361 142 "cpy313.curses.ascii") :: (nat_lit 149, co149) :: (nat_lit 150, fo 20 361 149 "cpy313.curses.ascii") :: (nat_lit 156, co156) :: (nat_lit 157, fo 21 361 156 "cpy313.curses.ascii") :: (nat_lit 163, co163) :: (nat_lit 164, fo 22 361 163 "cpy313.curses.ascii") :: (nat_lit 170, co170) :: (nat_lit 171, fo 23 361 170 "cpy313.curses.ascii") :: (nat_lit 177, co177) :: (nat_lit 178, fo 25 400 177 "law_pd0010_01") :: (nat_lit 184, co184) :: (nat_lit 185, fo 26 400 184 "law_pd0010_01") :: (nat_lit 189, co189) :: (nat_lit 190, fo 27 400 189 "law_pd0010_01") :: (nat_lit 194, co194) :: (nat_lit 195, fo 28 400 194 "law_pd0010_01") :: (nat_lit 199, co199) :: (nat_lit 200, fo 29 400 199 "law_pd0010_01") :: (nat_lit 206, co206) :: (nat_lit 207, fo 30 400 206 "law_pd0010_01") :: (nat_lit 211, co211) :: (nat_lit 212, fo 31 400 211 "law_pd0010_01") :: (nat_lit 216, co216) :: (nat_lit 217, fo 32 400 216 "law_pd0010_01") :: []
noncomputable def KKas : List Addr := nat_lit 3 :: nat_lit 93 :: nat_lit 94 :: nat_lit 107 :: nat_lit 108 :: nat_lit 114 :: nat_lit 115 :: nat_lit 121 :: nat_lit 122 :: nat_lit 128 :: nat_lit 129 :: nat_lit 135 :: nat_lit 136 :: nat_lit 142 :: nat_lit 143 :: nat_lit 149 :: nat_lit 150 :: nat_lit 156 :: nat_lit 157 :: nat_lit 163 :: nat_lit 164 :: nat_lit 170 :: nat_lit 171 :: nat_lit 177 :: nat_lit 178 :: nat_lit 184 :: nat_lit 185 :: nat_lit 189 :: nat_lit 190 :: nat_lit 194 :: nat_lit 195 :: nat_lit 199 :: nat_lit 200 :: nat_lit 206 :: nat_lit 207 :: nat_lit 211 :: nat_lit 212 :: nat_lit 216 :: nat_lit 217 :: []
end Mine
end
section
open PySem PySem.W PyProof.Rows PySem.Calls
set_option maxRecDepth 100000
set_option maxHeartbeats 4000000
namespace Mine

abbrev Up (h h' : Heap) : Prop := ∀ b o, h.get? b = some o → h'.get? b = some o
noncomputable def Dsv (h h' : Heap) : Prop := ∀ b o, h.get? b = some o → (∀ es ep, o.data ≠ .dict es ep) → h'.get? b = some o
theorem Up.dsv {h h' : Heap} (k : Up h h') : Dsv h h' := fun b o e _ => k b o e
theorem Dsv.refl (h : Heap) : Dsv h h := fun _ _ e _ => e
theorem Dsv.trans {h h' h'' : Heap} (a : Dsv h h') (b : Dsv h' h'') : Dsv h h'' := fun x o e n => b x o (a x o e n) n
theorem Dsv.isList {h h' : Heap} (k : Dsv h h') {a items} (x : h.IsList a items) : h'.IsList a items :=
  let ⟨o, ho, hc, n, hd⟩ := x; ⟨o, k a o ho (fun _ _ e => by rw [hd] at e; cases e), hc, n, hd⟩
theorem Dsv.isTuple {h h' : Heap} (k : Dsv h h') {a items} (x : h.IsTuple a items) : h'.IsTuple a items :=
  let ⟨o, ho, hc, n, hd⟩ := x; ⟨o, k a o ho (fun _ _ e => by rw [hd] at e; cases e), hc, n, hd⟩

theorem Keeps.up {s s' : Shared} (k : Keeps s s') : Up s.heap s'.heap := by
  obtain ⟨h, tk, rfl, kk⟩ := k; exact kk
theorem Keeps.refl (s : Shared) : Keeps s s := ⟨_, _, rfl, fun _ _ e => e⟩
theorem Keeps.trans {s s' s'' : Shared} (a : Keeps s s') (b : Keeps s' s'') : Keeps s s'' := by
  obtain ⟨h, tk, rfl, kk⟩ := a
  obtain ⟨h', tk', rfl, kk'⟩ := b
  exact ⟨h', tk', rfl, fun b o e => kk' b o (kk b o e)⟩
theorem Keeps.tk (s : Shared) (n : Nat) : Keeps s { s with toks := n } := ⟨_, _, rfl, fun _ _ e => e⟩
theorem Keeps.push (s : Shared) (o : Obj) : Keeps s { s with heap := s.heap.push o } := ⟨_, s.toks, rfl, fun _ _ e => Heap.get?_push_of_some _ e⟩
theorem Keeps.mk' {s : Shared} {h' : Heap} {tk : Nat} (k : Up s.heap h') : Keeps s { s with heap := h', toks := tk } := ⟨_, _, rfl, k⟩

structure Base (w : World) (h : Heap) : Prop where
  k : (KK w.params).In h
  g : ∃ mg, h.Ns mainGlobals mg
  b : ∃ mb, h.Ns builtinsNs mb ∧ ∀ x : Str, x ≠ "__name__" → mb x = bootBuiltins x
  nolimit : h.NoLimit
theorem Base.up {w : World} {h h' : Heap} (B : Base w h) (k : Up h h') : Base w h' :=
  ⟨B.k.keeps k, let ⟨mg, x⟩ := B.g; ⟨mg, x.keeps k⟩, let ⟨mb, x, y⟩ := B.b; ⟨mb, x.keeps k, y⟩, B.nolimit.keeps k⟩

theorem bb_isinstance : bootBuiltins (Str.ofString "isinstance") = some (.builtin "isinstance") := by decide +kernel
theorem bb_bytes : bootBuiltins (Str.ofString "bytes") = some (.type "bytes") := by decide +kernel
theorem bb_str : bootBuiltins (Str.ofString "str") = some (.type "str") := by decide +kernel
theorem bb_type : bootBuiltins (Str.ofString "type") = some (.type "type") := by decide +kernel
theorem bb_issubclass : bootBuiltins (Str.ofString "issubclass") = some (.builtin "issubclass") := by decide +kernel
theorem bb_len : bootBuiltins (Str.ofString "len") = some (.builtin "len") := by decide +kernel
theorem bb_chr : bootBuiltins (Str.ofString "chr") = some (.builtin "chr") := by decide +kernel
theorem bb_ord : bootBuiltins (Str.ofString "ord") = some (.builtin "ord") := by decide +kernel
theorem bb_int : bootBuiltins (Str.ofString "int") = some (.type "int") := by decide +kernel
theorem bb_range : bootBuiltins (Str.ofString "range") = some (.type "range") := by decide +kernel
theorem bb_max : bootBuiltins (Str.ofString "max") = some (.builtin "max") := by decide +kernel
theorem bb_min : bootBuiltins (Str.ofString "min") = some (.builtin "min") := by decide +kernel

structure Room (A : Around) (n : Nat) : Prop where
  hh : A.handled = none
  dp : A.depth + n < 1000
  un : A.units + 8 * n < 9900
theorem Room.mono {A : Around} {n m : Nat} (R : Room A n) (h : m ≤ n) : Room A m := ⟨R.hh, by have := R.dp; omega, by have := R.un; omega⟩
theorem Room.deeper {A : Around} {n : Nat} (R : Room A (n + 1)) (env : Env) : Room (A.deeper env) n := ⟨R.hh, by have := R.dp; show A.depth + 1 + n < 1000; omega, by have := R.un; show A.units + 3 + 8 * n < 9900; omega⟩

abbrev Vars := List (Str × Value)
noncomputable def Vars.put (vs : Vars) (x : Str) (v : Value) : Vars := (x, v) :: vs.filter (fun p => !(p.1 == x))

structure St (w : World) (s₀ : Shared) (L : Addr) (vars : Vars) (s : Shared) : Prop where
  ext : Keeps s₀ s
  ns : ∃ m, s.heap.Ns L m ∧ ∀ p ∈ vars, m p.1 = some p.2
  base : Base w s₀.heap
theorem St.to {w : World} {s₀ s s' : Shared} {L : Addr} {vars : Vars} (S : St w s₀ L vars s) (k : Keeps s s') : St w s₀ L vars s' :=
  ⟨Keeps.trans S.ext k, let ⟨m, x, y⟩ := S.ns; ⟨m, x.keeps (Keeps.up k), y⟩, S.base⟩
theorem St.bs {w : World} {s₀ s : Shared} {L : Addr} {vars : Vars} (S : St w s₀ L vars s) : Base w s.heap := S.base.up (Keeps.up S.ext)

theorem mem_of_lookup {vars : Vars} {x : Str} {v : Value} (h : vars.lookup x = some v) : (x, v) ∈ vars := by
  induction vars with
  | nil => cases h
  | cons p r ih =>
    obtain ⟨y, u⟩ := p
    rw [List.lookup_cons] at h
    cases e : x == y with
    | true => rw [e] at h; cases h; rw [eq_of_beq e]; exact List.mem_cons_self
    | false => rw [e] at h; exact List.mem_cons_of_mem _ (ih h)
noncomputable def Sub : Vars → Vars → Prop
  | [], _ => True
  | p :: r, vs => vs.lookup p.1 = some p.2 ∧ Sub r vs
theorem Sub.all {a b : Vars} (h : Sub a b) : ∀ p ∈ a, b.lookup p.1 = some p.2 := by
  induction a with
  | nil => intro p hp; cases hp
  | cons q r ih =>
    intro p hp
    rcases List.mem_cons.mp hp with rfl | hp
    · exact h.1
    · exact ih h.2 p hp
theorem St.sub {w : World} {s₀ s : Shared} {L : Addr} {vars vars' : Vars} (S : St w s₀ L vars s) (h : Sub vars' vars) : St w s₀ L vars' s :=
  ⟨S.ext, let ⟨m, x, y⟩ := S.ns; ⟨m, x, fun p hp => y (p.1, p.2) (mem_of_lookup (h.all p hp))⟩, S.base⟩

section
variable {M : Model} {A : Around} {E : Value → Shared → Prop} {w : World} {s₀ s : Shared} {L : Addr} {vars : Vars} {env : Env}

theorem e_loc {x : Str} {pos : Pos} {v : Value} {Q : Value → Shared → Prop} (S : St w s₀ L vars s) (hv : vars.lookup x = some v) (h : Q v s)
    (hL : env.locals = L := by rfl) (hk : env.scope.kind = .function := by rfl) (hl : env.kindOf x = some .local := by rfl) (hd : (x == ("__debug__" : Str)) = false := by decide) :
    wpAny M A (eval (.Name x pos) env) Q E s := by
  obtain ⟨m, hn, hm⟩ := S.ns
  subst hL
  exact wpAny_Name (wpAny_loadName_local hk hl hn (hm _ (mem_of_lookup hv)) h) hd
theorem n_loc {x : Str} {v : Value} {Q : Value → Shared → Prop} (S : St w s₀ L vars s) (hv : vars.lookup x = some v) (h : Q v s)
    (hL : env.locals = L := by rfl) (hk : env.scope.kind = .function := by rfl) (hl : env.kindOf x = some .local := by rfl) :
    wpAny M A (loadName env x) Q E s := by
  obtain ⟨m, hn, hm⟩ := S.ns
  subst hL
  exact wpAny_loadName_local hk hl hn (hm _ (mem_of_lookup hv)) h
theorem e_glob {x : Str} {pos : Pos} {v : Value} {Q : Value → Shared → Prop} (B : Base w s.heap) (e : nsIn (KK w.params) mainGlobals x = some (some v)) (h : Q v s)
    (hg : env.globals = mainGlobals := by rfl) (hk : env.scope.kind = .function := by rfl) (hx : env.kindOf x = some .globalImplicit := by rfl) (hd : (x == ("__debug__" : Str)) = false := by decide) :
    wpAny M A (eval (.Name x pos) env) Q E s := by
  obtain ⟨mg, g⟩ := B.g
  exact Name_function_global hk hx (loadGlobal_global (env := env) (by rw [hg]; exact g) (mg_of B.k g e) h) hd
theorem e_blt {x : Str} {pos : Pos} {v : Value} {Q : Value → Shared → Prop} (B : Base w s.heap) (e : nsIn (KK w.params) mainGlobals x = some none) (hv : bootBuiltins x = some v) (h : Q v s)
    (hn : x ≠ "__name__" := by decide) (hb : env.builtins = builtinsNs := by rfl)
    (hg : env.globals = mainGlobals := by rfl) (hk : env.scope.kind = .function := by rfl) (hx : env.kindOf x = some .globalImplicit := by rfl) (hd : (x == ("__debug__" : Str)) = false := by decide) :
    wpAny M A (eval (.Name x pos) env) Q E s := by
  obtain ⟨mg, g⟩ := B.g
  obtain ⟨mb, b, bb⟩ := B.b
  exact Name_function_global hk hx (loadGlobal_builtin (env := env) (by rw [hg]; exact g) (mg_none_of B.k g e) (by rw [hb]; exact b) ((bb x hn).trans hv) h) hd
theorem e_str {x : Str} {k : Nat} {pos : Pos} {Q : Value → Shared → Prop} (h : ∀ t s', Keeps s s' → Q (.str x t) s') : wpAny M A (eval (.Constant (.str x) k pos) env) Q E s := fun _ _ _ => h _ _ (Keeps.tk s _)
theorem e_byt {x : List UInt8} {k : Nat} {pos : Pos} {Q : Value → Shared → Prop} (h : ∀ t s', Keeps s s' → Q (.bytes x.toArray t) s') : wpAny M A (eval (.Constant (.bytes x) k pos) env) Q E s := fun _ _ _ => h _ _ (Keeps.tk s _)
theorem e_int {x : Int} {k : Nat} {pos : Pos} {Q : Value → Shared → Prop} (h : ∀ t s', Keeps s s' → Q (.int x t) s') : wpAny M A (eval (.Constant (.int x) k pos) env) Q E s := fun _ _ _ => h _ _ (Keeps.tk s _)

theorem st_loc {x : Str} {v : Value} {Q : Unit → Shared → Prop} (S : St w s₀ L vars s) (hF : s₀.heap.get? L = none)
    (h : ∀ s', St w s₀ L (vars.put x v) s' → Dsv s.heap s'.heap → (∀ b o, b ≠ L → s.heap.get? b = some o → s'.heap.get? b = some o) → Q () s')
    (hL : env.locals = L := by rfl) (hl : env.kindOf x = some .local := by rfl) (hp : (env.scope.kind == .class || (env.scope.kind == .module && env.locals != env.globals)) = false := by rfl) :
    wpAny M A (storeName env x v) Q E s := by
  subst hL
  obtain ⟨m, hn, hm⟩ := S.ns
  refine wpAny_storeName_local hl hn (fun h' hn' hs' => ?_) hp
  have kk : ∀ b o, b ≠ env.locals → s.heap.get? b = some o → h'.get? b = some o := fun b o hb e => hs'.extBut b o hb e
  refine h _ ⟨?_, ⟨_, hn', ?_⟩, S.base⟩ ?_ kk
  · obtain ⟨h0, tk, rfl, k0⟩ := S.ext
    exact ⟨h', _, rfl, fun b o e => kk b o (by rintro rfl; rw [hF] at e; cases e) (k0 b o e)⟩
  · intro p hp
    rcases List.mem_cons.mp hp with rfl | hp
    · exact if_pos rfl
    · obtain ⟨hp1, hp2⟩ := List.mem_filter.mp hp
      have hne : p.1 ≠ x := by intro e; simp [e] at hp2
      show (if p.1 = x then some v else m p.1) = some p.2
      rw [if_neg hne]; exact hm p hp1
  · intro b o e nd
    refine kk b o ?_ e
    rintro rfl
    obtain ⟨o', es, ep, ho', hd', _⟩ := hn
    rw [ho'] at e; cases e
    exact nd _ _ hd'
end
end Mine
end
section

namespace Mine

noncomputable def sw (cs : List Nat) : Bool := cs.head? == some 47
noncomputable def ew (cs : List Nat) : Bool := cs.getLast? == some 47
noncomputable def hd47 (cs : List Nat) : List Nat := (cs.reverse.dropWhile (· != 47)).reverse
noncomputable def tl47 (cs : List Nat) : List Nat := (cs.reverse.takeWhile (· != 47)).reverse
noncomputable def rs47 (cs : List Nat) : List Nat := (cs.reverse.dropWhile (· == 47)).reverse
noncomputable def sp47 : List Nat → List (List Nat)
  | [] => [[]]
  | c :: r => if c = 47 then [] :: sp47 r else match sp47 r with
    | h :: t => (c :: h) :: t
    | [] => [[c]]
noncomputable def jn47 : List (List Nat) → List Nat
  | [] => []
  | [x] => x
  | x :: y :: r => x ++ 47 :: jn47 (y :: r)

theorem hd_tl (cs : List Nat) : hd47 cs ++ tl47 cs = cs := by
  unfold hd47 tl47
  rw [← List.reverse_append, List.takeWhile_append_dropWhile, List.reverse_reverse]
theorem tl_free (cs : List Nat) : 47 ∉ tl47 cs := by
  intro h
  unfold tl47 at h
  rw [List.mem_reverse] at h
  have key : ∀ l : List Nat, ∀ x ∈ l.takeWhile (· != 47), (x != 47) = true := by
    intro l
    induction l with
    | nil => intro x hx; cases hx
    | cons c r ih =>
      intro x hx
      rw [List.takeWhile_cons] at hx
      cases hc : (c != 47) with
      | true =>
        rw [hc] at hx
        rcases List.mem_cons.mp hx with rfl | hx
        · exact hc
        · exact ih x hx
      | false => rw [hc] at hx; cases hx
  exact absurd (key _ _ h) (by decide)
theorem hd_end (cs : List Nat) : hd47 cs = [] ∨ ∃ a, hd47 cs = a ++ [47] := by
  unfold hd47
  cases h : cs.reverse.dropWhile (· != 47) with
  | nil => exact .inl rfl
  | cons c r =>
    right
    have : (c != 47) = false := by
      have := List.head?_dropWhile_not (p := (· != 47)) (l := cs.reverse)
      rw [h] at this
      simpa using this
    have : c = 47 := by simpa using this
    exact ⟨r.reverse, by rw [List.reverse_cons, this]⟩
theorem hd_len_le (cs : List Nat) : (hd47 cs).length ≤ cs.length := by
  have := congrArg List.length (hd_tl cs); rw [List.length_append] at this; omega
theorem hd_eq_take (cs : List Nat) : cs.take (hd47 cs).length = hd47 cs := by
  conv => lhs; arg 2; rw [← hd_tl cs]
  rw [List.take_left']; rfl
theorem tl_eq_drop (cs : List Nat) : cs.drop (hd47 cs).length = tl47 cs := by
  conv => lhs; arg 2; rw [← hd_tl cs]
  rw [List.drop_left']; rfl
theorem hd_len_none {cs : List Nat} (h : ∀ i : Nat, cs[i]? ≠ some 47) : (hd47 cs).length = 0 := by
  rcases hd_end cs with e | ⟨a, e⟩
  · rw [e]; rfl
  · exfalso
    refine h a.length ?_
    rw [← hd_tl cs, e]; simp
theorem hd_len_some {cs : List Nat} {i : Nat} (hi : cs[i]? = some 47) (hn : ∀ k : Nat, i < k → cs[k]? ≠ some 47) : (hd47 cs).length = i + 1 := by
  have hi' : i < (hd47 cs).length := by
    rcases Nat.lt_or_ge i (hd47 cs).length with h | h
    · exact h
    · exfalso
      rw [← hd_tl cs, List.getElem?_append_right h] at hi
      exact tl_free cs (List.mem_of_getElem? hi)
  rcases hd_end cs with e | ⟨a, e⟩
  · rw [e] at hi'; simp at hi'
  · rw [e] at hi' ⊢
    simp only [List.length_append, List.length_singleton] at hi' ⊢
    rcases Nat.lt_or_ge i a.length with h | h
    · exfalso
      refine hn a.length h ?_
      rw [← hd_tl cs, e]; simp
    · omega
theorem rs_len_le (cs : List Nat) : (rs47 cs).length ≤ cs.length := by
  unfold rs47
  rw [List.length_reverse]
  have := (List.dropWhile_sublist (p := (· == 47)) (l := cs.reverse)).length_le
  rwa [List.length_reverse] at this

theorem sp_ne (cs : List Nat) : sp47 cs ≠ [] := by
  cases cs with
  | nil => simp [sp47]
  | cons c r =>
    unfold sp47
    split
    · simp
    · split <;> simp
theorem sp_free (cs : List Nat) : ∀ p ∈ sp47 cs, 47 ∉ p := by
  induction cs with
  | nil => intro p hp; simp [sp47] at hp; subst hp; simp
  | cons c r ih =>
    intro p hp
    unfold sp47 at hp
    split at hp
    · rcases List.mem_cons.mp hp with rfl | hp
      · simp
      · exact ih p hp
    · rename_i hc
      split at hp
      · rename_i h t e
        rw [e] at ih
        rcases List.mem_cons.mp hp with rfl | hp
        · have := ih h List.mem_cons_self
          intro hm
          rcases List.mem_cons.mp hm with h1 | h1
          · exact hc h1.symm
          · exact this h1
        · exact ih p (List.mem_cons_of_mem _ hp)
      · rename_i e
        exact absurd e (sp_ne r)
theorem sp_47 (r : List Nat) : sp47 (47 :: r) = [] :: sp47 r := by rw [sp47, if_pos rfl]
theorem sp_other {c : Nat} {r h : List Nat} {t : List (List Nat)} (hc : c ≠ 47) (e : sp47 r = h :: t) : sp47 (c :: r) = (c :: h) :: t := by rw [sp47, if_neg hc, e]
theorem jn_cons (x : List Nat) {l : List (List Nat)} (h : l ≠ []) : jn47 (x :: l) = x ++ 47 :: jn47 l := by
  cases l with
  | nil => exact absurd rfl h
  | cons y r => rfl
theorem jn_sp (cs : List Nat) : jn47 (sp47 cs) = cs := by
  induction cs with
  | nil => rfl
  | cons c r ih =>
    unfold sp47
    split
    · rename_i hc; subst hc
      rw [jn_cons _ (sp_ne r), ih]; rfl
    · split
      · rename_i h t e
        rw [e] at ih
        cases t with
        | nil => simp only [jn47] at ih ⊢; rw [ih]
        | cons y t => simp only [jn47, List.cons_append] at ih ⊢; rw [ih]
      · rename_i e; exact absurd e (sp_ne r)
theorem sp_free_one {p : List Nat} (h : 47 ∉ p) : sp47 p = [p] := by
  induction p with
  | nil => rfl
  | cons c r ih =>
    have hc : c ≠ 47 := fun e => h (by rw [e]; exact List.mem_cons_self)
    unfold sp47
    rw [if_neg hc, ih fun hm => h (List.mem_cons_of_mem _ hm)]
theorem sp_app {p : List Nat} (h : 47 ∉ p) (r : List Nat) : sp47 (p ++ 47 :: r) = p :: sp47 r := by
  induction p with
  | nil => exact sp_47 r
  | cons c q ih =>
    have hc : c ≠ 47 := fun e => h (by rw [e]; exact List.mem_cons_self)
    exact sp_other hc (ih fun hm => h (List.mem_cons_of_mem _ hm))
theorem sp_jn : ∀ {l : List (List Nat)}, l ≠ [] → (∀ p ∈ l, 47 ∉ p) → sp47 (jn47 l) = l
  | [], h, _ => absurd rfl h
  | [x], _, hf => sp_free_one (hf x List.mem_cons_self)
  | x :: y :: r, _, hf => by
    show sp47 (x ++ 47 :: jn47 (y :: r)) = _
    rw [sp_app (hf x List.mem_cons_self), sp_jn (by simp) fun p hp => hf p (List.mem_cons_of_mem _ hp)]
theorem sp_uniq {l : List (List Nat)} {cs : List Nat} (h : l ≠ []) (hf : ∀ p ∈ l, 47 ∉ p) (e : jn47 l = cs) : l = sp47 cs := by rw [← e, sp_jn h hf]
end Mine
end
section
open PySem PySem.W PyProof.Rows PySem.Calls
set_option maxRecDepth 100000
set_option maxHeartbeats 4000000
namespace Mine

/-- a text value: k false a str, k true a bytes -/
noncomputable def tx (k : Bool) (cs : List Nat) (t : Tok) : Value := if k then .bytes (cs.map UInt8.ofNat).toArray t else .str ⟨cs.toArray⟩ t
noncomputable def Oct (cs : List Nat) : Prop := ∀ c ∈ cs, c < 256
theorem Oct.nil : Oct [] := fun _ h => nomatch h
theorem Oct.cons {c : Nat} {cs : List Nat} (h : c < 256) (o : Oct cs) : Oct (c :: cs) := fun x hx => by
  rcases List.mem_cons.mp hx with rfl | hx
  · exact h
  · exact o x hx
theorem Oct.app {a b : List Nat} (x : Oct a) (y : Oct b) : Oct (a ++ b) := fun c hc => (List.mem_append.mp hc).elim (x c) (y c)
theorem oct_inj : ∀ {a b : List Nat}, Oct a → Oct b → (a.map UInt8.ofNat = b.map UInt8.ofNat ↔ a = b)
  | [], [], _, _ => by simp
  | [], _ :: _, _, _ => by simp
  | _ :: _, [], _, _ => by simp
  | c :: a, d :: b, ha, hb => by
    have hc := ha c List.mem_cons_self
    have hd := hb d List.mem_cons_self
    have ih := oct_inj (a := a) (b := b) (fun x hx => ha x (List.mem_cons_of_mem _ hx)) (fun x hx => hb x (List.mem_cons_of_mem _ hx))
    simp only [List.map_cons, List.cons.injEq, ih]
    have : UInt8.ofNat c = UInt8.ofNat d ↔ c = d := by
      constructor
      · intro e
        have := congrArg UInt8.toNat e
        simp only [UInt8.toNat_ofNat'] at this
        omega
      · intro e; rw [e]
    rw [this]

theorem ite_t {X Y : Prop} (h : X) : if true = true then X else Y := h
theorem ite_f {X Y : Prop} (h : Y) : if false = true then X else Y := h
theorem ite_nt {X Y : Prop} (h : X) : if (!false) = true then X else Y := h
theorem ite_nf {X Y : Prop} (h : Y) : if (!true) = true then X else Y := h
theorem ite_b {b : Bool} {X Y : Prop} (h1 : b = true → X) (h2 : b = false → Y) : if b = true then X else Y := by
  cases b
  · exact h2 rfl
  · exact h1 rfl

section
variable {prog : Program} {A : Around} {E : Value → Shared → Prop} {w : World} {s : Shared} {k : Bool} {cs ds : List Nat} {t u : Tok}

theorem isi_tx_bytes {Q : Value → Shared → Prop} (h : ∀ s', Keeps s s' → Q (.bool k) s') :
    wpAny (model prog w) A (call (.builtin "isinstance") [tx k cs t, .type "bytes"]) Q E s := by
  cases k
  · exact call_isinstance (isinstance_false_str (by decide +kernel) F.isi_meta_bytes (by rw [isSubtype_type]; kernel_rfl)) (h _ (Keeps.tk _ _))
  · exact call_isinstance (isinstance_true (Tx := "bytes") F.isi_meta_bytes F.isi_self_bytes) ⟨rfl, h _ (Keeps.refl _)⟩
theorem isi_str_str {x : Str} {Q : Value → Shared → Prop} (h : Q (.bool true) s) :
    wpAny (model prog w) A (call (.builtin "isinstance") [.str x t, .type "str"]) Q E s :=
  call_isinstance (isinstance_true (Tx := "str") F.isi_meta_str F.isi_self_str) ⟨rfl, h⟩
theorem isi_int_str {x : Int} {Q : Value → Shared → Prop} (h : ∀ s', Keeps s s' → Q (.bool false) s') :
    wpAny (model prog w) A (call (.builtin "isinstance") [.int x t, .type "str"]) Q E s :=
  call_isinstance (isinstance_false_int (by decide +kernel) F.isi_meta_str (by rw [isSubtype_type]; kernel_rfl)) (h _ (Keeps.tk _ _))
theorem isi_tup_str {a : Addr} {items : Array Value} {Q : Value → Shared → Prop} (ht : s.heap.IsTuple a items) (h : ∀ s', Keeps s s' → Q (.bool false) s') :
    wpAny (model prog w) A (call (.builtin "isinstance") [.ref a, .type "str"]) Q E s := by
  obtain ⟨o, ho, hc, n, hd⟩ := ht
  exact call_isinstance (isinstance_false_tuple (by decide +kernel) F.isi_meta_str (by rw [isSubtype_type]; kernel_rfl)) ⟨⟨o, ho, hc⟩, h _ (Keeps.tk _ _)⟩

theorem truthy_tx {Q : Bool → Shared → Prop} (hsz : cs.length ≤ 1048576) (h : ∀ s', Keeps s s' → Q (!cs.isEmpty) s') : wpAny (model prog w) A (truthy (tx k cs t)) Q E s := by
  have e : ((cs.length : Int) != 0) = !cs.isEmpty := by cases cs <;> simp <;> omega
  cases k
  · refine P.truthy_str (x := ⟨cs.toArray⟩) (by show ¬ ((cs.toArray.size : Nat) : Int) ≥ 2 ^ 63; rw [List.size_toArray]; omega) ?_
    show Q (((cs.toArray.size : Nat) : Int) != 0) _
    rw [List.size_toArray, e]; exact h _ (Keeps.tk _ _)
  · refine truthy_bytes (b := (cs.map UInt8.ofNat).toArray) (by rw [List.size_toArray, List.length_map]; omega) ?_
    rw [List.size_toArray, List.length_map, e]; exact h _ (Keeps.tk _ _)

theorem beq_oct (x : Oct cs) (y : Oct ds) : ((cs.map UInt8.ofNat) == (ds.map UInt8.ofNat)) = (cs == ds) := by
  rw [Bool.eq_iff_iff, beq_iff_eq, beq_iff_eq]; exact oct_inj x y

theorem eq_tx {Q : Value → Shared → Prop} (x : Oct cs) (y : Oct ds) (h : Q (.bool (cs == ds)) s) : wpAny (model prog w) A (compareOp .Eq (tx k cs t) (tx k ds u)) Q E s := by
  cases k
  · exact P.eq_str (x := ⟨cs.toArray⟩) (y := ⟨ds.toArray⟩) h
  · refine eq_bytes (b := (cs.map UInt8.ofNat).toArray) (c := (ds.map UInt8.ofNat).toArray) ?_
    show Q (.bool ((cs.map UInt8.ofNat) == (ds.map UInt8.ofNat))) s
    rw [beq_oct x y]; exact h
theorem ne_tx {Q : Value → Shared → Prop} (x : Oct cs) (y : Oct ds) (h : Q (.bool (cs != ds)) s) : wpAny (model prog w) A (compareOp .NotEq (tx k cs t) (tx k ds u)) Q E s := by
  cases k
  · exact P.ne_str (x := ⟨cs.toArray⟩) (y := ⟨ds.toArray⟩) h
  · refine ne_bytes (b := (cs.map UInt8.ofNat).toArray) (c := (ds.map UInt8.ofNat).toArray) ?_
    show Q (.bool (!((cs.map UInt8.ofNat) == (ds.map UInt8.ofNat)))) s
    rw [beq_oct x y]; exact h
theorem add_tx {Q : Value → Shared → Prop} (hsz : cs.length + ds.length ≤ 1048576) (h : ∀ t' s', Keeps s s' → Q (tx k (cs ++ ds) t') s') : wpAny (model prog w) A (binaryOp .Add (tx k cs t) (tx k ds u)) Q E s := by
  cases k
  · refine PyProof.Rows.add_str (x := ⟨cs.toArray⟩) (y := ⟨ds.toArray⟩) (fun t' tk => ?_) (by show cs.toArray.size + ds.toArray.size ≤ 2 ^ 24; simp only [List.size_toArray]; omega)
    have e : (⟨cs.toArray⟩ : Str) ++ ⟨ds.toArray⟩ = ⟨(cs ++ ds).toArray⟩ := by show (⟨cs.toArray ++ ds.toArray⟩ : Str) = _; simp
    rw [e]; exact h _ _ (Keeps.tk _ _)
  · refine KBy.add_bytes (b := (cs.map UInt8.ofNat).toArray) (c := (ds.map UInt8.ofNat).toArray) (by simp only [List.size_toArray, List.length_map]; omega) (fun t' tk => ?_)
    have e : (cs.map UInt8.ofNat).toArray ++ (ds.map UInt8.ofNat).toArray = ((cs ++ ds).map UInt8.ofNat).toArray := by simp
    rw [e]; exact h _ _ (Keeps.tk _ _)
end
end Mine
end
section
open PySem PySem.W PyProof.Rows PySem.Calls PySem.Builtin
set_option maxRecDepth 100000
set_option maxHeartbeats 4000000
namespace Mine
namespace BF
theorem slot_rfind : Slot "bytes" "rfind" "bytes.rfind" :=
  .of (owner := "bytes") (n := "rfind") (by rw [typeLookup_type, builtinLookup_eq_fast]; kernel_rfl) (by decide +kernel) (by decide +kernel) (by decide +kernel)
    (by first | exact .inl (by decide +kernel) | exact .inr (by decide +kernel)) (by rw [isSubtype_type]; kernel_rfl)
theorem slot_rstrip : Slot "bytes" "rstrip" "bytes.rstrip" :=
  .of (owner := "bytes") (n := "rstrip") (by rw [typeLookup_type, builtinLookup_eq_fast]; kernel_rfl) (by decide +kernel) (by decide +kernel) (by decide +kernel)
    (by first | exact .inl (by decide +kernel) | exact .inr (by decide +kernel)) (by rw [isSubtype_type]; kernel_rfl)
theorem slot_split : Slot "bytes" "split" "bytes.split" :=
  .of (owner := "bytes") (n := "split") (by rw [typeLookup_type, builtinLookup_eq_fast]; kernel_rfl) (by decide +kernel) (by decide +kernel) (by decide +kernel)
    (by first | exact .inl (by decide +kernel) | exact .inr (by decide +kernel)) (by rw [isSubtype_type]; kernel_rfl)
theorem slot_join : Slot "bytes" "join" "bytes.join" :=
  .of (owner := "bytes") (n := "join") (by rw [typeLookup_type, builtinLookup_eq_fast]; kernel_rfl) (by decide +kernel) (by decide +kernel) (by decide +kernel)
    (by first | exact .inl (by decide +kernel) | exact .inr (by decide +kernel)) (by rw [isSubtype_type]; kernel_rfl)
theorem type_rfind : typeOf (.builtin "bytes.rfind") = pure (.type "method_descriptor") := by show builtinType _ = _; rw [builtinType_eq_fast]; kernel_rfl
theorem type_rstrip : typeOf (.builtin "bytes.rstrip") = pure (.type "method_descriptor") := by show builtinType _ = _; rw [builtinType_eq_fast]; kernel_rfl
theorem type_split : typeOf (.builtin "bytes.split") = pure (.type "method_descriptor") := by show builtinType _ = _; rw [builtinType_eq_fast]; kernel_rfl
theorem type_join : typeOf (.builtin "bytes.join") = pure (.type "method_descriptor") := by show builtinType _ = _; rw [builtinType_eq_fast]; kernel_rfl
theorem entry_rfind : entryFor table "bytes.rfind" = some Builtin.«bytes.rfind» := entryFor_of_tree (by kernel_rfl)
theorem entry_rstrip : entryFor table "bytes.rstrip" = some Builtin.«bytes.rstrip» := entryFor_of_tree (by kernel_rfl)
theorem entry_split : entryFor table "bytes.split" = some Builtin.«bytes.split» := entryFor_of_tree (by kernel_rfl)
theorem entry_join : entryFor table "bytes.join" = some Builtin.«bytes.join» := entryFor_of_tree (by kernel_rfl)
theorem args_rfind (a b : Value) : argsOk "bytes.rfind" ⟨[a, b], []⟩ := by unfold argsOk; kernel_rfl
theorem args_rstrip (a b : Value) : argsOk "bytes.rstrip" ⟨[a, b], []⟩ := by unfold argsOk; kernel_rfl
theorem args_split (a b : Value) : argsOk "bytes.split" ⟨[a, b], []⟩ := by unfold argsOk; kernel_rfl
theorem args_join (a b : Value) : argsOk "bytes.join" ⟨[a, b], []⟩ := by unfold argsOk; kernel_rfl
theorem not_tuple {b : Array UInt8} {t : Tok} : isInstance (.bytes b t) (.type "tuple") = pure false := by
  have e : isInstance (.bytes b t) (.type "tuple") = isSubtype (.type "bytes") (.type "tuple") := rfl
  rw [e, isSubtype_type]; kernel_rfl

theorem window_all (n : Nat) : Bytes.window n none none = (0, (n : Int)) := by
  unfold Bytes.window
  simp only [Option.getD_none]
  rw [if_neg (by omega), if_neg (by omega)]
  congr 1
  omega
theorem starts_gives (b c : Array UInt8) (t u : Tok) : Gives («bytes.startswith» ⟨[.bytes b t, .bytes c u], []⟩)
    (.val (.bool (if (b.size : Int) < c.size then false else b.extract 0 c.size == c))) := by
  refine .of_wp fun M A E s Q hq => ?_
  show wpAny M A (Bytes.tailMatchM .bytes "startswith" false ⟨[.bytes b t, .bytes c u], []⟩) _ E s
  unfold Bytes.tailMatchM
  refine wpAny_bind (wpAny_of_eq (a := (Value.bytes b t, [Value.bytes c u])) rfl ?_)
  refine wpAny_bind (wpAny_of_eq (a := none) rfl ?_)
  refine wpAny_bind (wpAny_of_eq (a := none) rfl ?_)
  refine wpAny_bind (wpAny_of_eq (a := b) rfl ?_)
  refine wpAny_bind (wpAny_of_eq (a := false) not_tuple ?_)
  refine wpAny_bind (wpAny_of_eq (a := some c) KBy.buffer_eq ?_)
  refine wpAny_pure ⟨_, rfl, ?_⟩
  have e : (if ((Bytes.window b.size none none).2 - (Bytes.window b.size none none).1 < (c.size : Int)) then false
      else b.extract (Bytes.window b.size none none).1.toNat ((Bytes.window b.size none none).1.toNat + c.size) == c) = (if (b.size : Int) < c.size then false else b.extract 0 c.size == c) := by
    rw [window_all]; simp
  have hq' : Q (.bool (if (b.size : Int) < c.size then false else b.extract 0 c.size == c)) s := hq
  rw [← e] at hq'
  exact hq'
theorem ends_gives (b c : Array UInt8) (t u : Tok) : Gives («bytes.endswith» ⟨[.bytes b t, .bytes c u], []⟩)
    (.val (.bool (if (b.size : Int) < c.size then false else b.extract (b.size - c.size) b.size == c))) := by
  refine .of_wp fun M A E s Q hq => ?_
  show wpAny M A (Bytes.tailMatchM .bytes "endswith" true ⟨[.bytes b t, .bytes c u], []⟩) _ E s
  unfold Bytes.tailMatchM
  refine wpAny_bind (wpAny_of_eq (a := (Value.bytes b t, [Value.bytes c u])) rfl ?_)
  refine wpAny_bind (wpAny_of_eq (a := none) rfl ?_)
  refine wpAny_bind (wpAny_of_eq (a := none) rfl ?_)
  refine wpAny_bind (wpAny_of_eq (a := b) rfl ?_)
  refine wpAny_bind (wpAny_of_eq (a := false) not_tuple ?_)
  refine wpAny_bind (wpAny_of_eq (a := some c) KBy.buffer_eq ?_)
  refine wpAny_pure ⟨_, rfl, ?_⟩
  have e : (if ((Bytes.window b.size none none).2 - (Bytes.window b.size none none).1 < (c.size : Int)) then false
      else b.extract ((Bytes.window b.size none none).2.toNat - c.size) (Bytes.window b.size none none).2.toNat == c) = (if (b.size : Int) < c.size then false else b.extract (b.size - c.size) b.size == c) := by
    rw [window_all]; simp
  have hq' : Q (.bool (if (b.size : Int) < c.size then false else b.extract (b.size - c.size) b.size == c)) s := hq
  rw [← e] at hq'
  exact hq'
theorem rfind_gives (b c : Array UInt8) (t u : Tok) (hc : c.size ≤ b.size) : Gives («bytes.rfind» ⟨[.bytes b t, .bytes c u], []⟩)
    (.int (match Bytes.rfind? b c 0 b.size with | some i => (i : Int) | none => -1)) := by
  refine .of_wp fun M A E s Q hq => ?_
  show wpAny M A (Bytes.searchM .bytes "rfind" true false ⟨[.bytes b t, .bytes c u], []⟩) _ E s
  unfold Bytes.searchM
  refine wpAny_bind ?_
  unfold Bytes.searchArgs
  refine wpAny_bind (wpAny_of_eq (a := (Value.bytes b t, [Value.bytes c u])) rfl ?_)
  refine wpAny_bind (wpAny_of_eq (a := none) rfl ?_)
  refine wpAny_bind (wpAny_of_eq (a := none) rfl ?_)
  refine wpAny_bind (wpAny_of_eq (a := some c) KBy.buffer_eq ?_)
  refine wpAny_bind (wpAny_pure ?_)
  refine wpAny_bind (wpAny_of_eq (a := b) rfl ?_)
  rw [window_all]
  have h0 : ¬ ((b.size : Int) - 0 < (c.size : Int)) := by omega
  refine wpAny_pure ?_
  show wpAny M A (match (if (b.size : Int) - 0 < (c.size : Int) then none else some ((0 : Int).toNat, (b.size : Int).toNat)).bind (fun (lo, hi) => Bytes.rfind? b c lo hi) with
    | some i => retInt i
    | none => rule _ >>= fun _ => retInt (-1)) _ E s
  rw [if_neg h0]
  show wpAny M A (match Bytes.rfind? b c (0 : Int).toNat (b.size : Int).toNat with
    | some i => retInt i
    | none => rule _ >>= fun _ => retInt (-1)) _ E s
  have e1 : (0 : Int).toNat = 0 := rfl
  have e2 : (b.size : Int).toNat = b.size := by omega
  rw [e1, e2]
  cases hr : Bytes.rfind? b c 0 b.size with
  | some i =>
    rw [hr] at hq
    exact wpAny_bind (wpAny_mkInt (wpAny_pure ⟨_, rfl, hq⟩))
  | none =>
    rw [hr] at hq
    exact wpAny_bind (wpAny_rule (wpAny_bind (wpAny_mkInt (wpAny_pure ⟨_, rfl, hq⟩))))
theorem rstrip_gives (b c : Array UInt8) (t u : Tok) : Gives («bytes.rstrip» ⟨[.bytes b t, .bytes c u], []⟩)
    (if (b.toList.reverse.dropWhile c.contains).reverse.length == b.size then .val (.bytes b t) else .bytes (b.toList.reverse.dropWhile c.contains).reverse.toArray) := by
  refine .of_wp fun M A E s Q hq => ?_
  show wpAny M A (Bytes.stripM .bytes "rstrip" false true ⟨[.bytes b t, .bytes c u], []⟩) _ E s
  unfold Bytes.stripM
  refine wpAny_bind (wpAny_of_eq (a := (Value.bytes b t, [Value.bytes c u])) rfl ?_)
  refine wpAny_bind ?_
  unfold Bytes.bytesLike
  refine wpAny_bind (wpAny_of_eq (a := some c) KBy.buffer_eq ?_)
  refine wpAny_pure (wpAny_bind (wpAny_pure ?_))
  refine wpAny_bind (wpAny_of_eq (a := b) rfl ?_)
  show wpAny M A (if ((b.toList.reverse.dropWhile c.contains).reverse.length == b.size) = true then _ else _) _ E s
  by_cases h : ((b.toList.reverse.dropWhile c.contains).reverse.length == b.size) = true
  · rw [if_pos h] at hq ⊢
    refine wpAny_bind (wpAny_rule (wpAny_bind ?_))
    exact wpAny_of_eq (a := Value.bytes b t) rfl (wpAny_pure ⟨_, rfl, hq⟩)
  · rw [if_neg h] at hq ⊢
    exact wpAny_bind (wpAny_mkBytes (wpAny_pure ⟨_, rfl, hq.2⟩) hq.1)
end BF
end Mine
end
section
open PySem PySem.W PyProof.Rows PySem.Calls PySem.Builtin
set_option maxRecDepth 100000
set_option maxHeartbeats 4000000
namespace Mine

inductive TxL (k : Bool) : List (List Nat) → List Value → Prop
  | nil : TxL k [] []
  | cons {c : List Nat} {t : Tok} {cs : List (List Nat)} {vs : List Value} : TxL k cs vs → TxL k (c :: cs) (tx k c t :: vs)
theorem TxL.len {k : Bool} {cs : List (List Nat)} {vs : List Value} (h : TxL k cs vs) : vs.length = cs.length := by
  induction h with
  | nil => rfl
  | cons _ ih => simp [ih]
theorem TxL.get {k : Bool} {cs : List (List Nat)} {vs : List Value} (h : TxL k cs vs) : ∀ {i : Nat} {c : List Nat}, cs[i]? = some c → ∃ t, vs[i]? = some (tx k c t) := by
  induction h with
  | nil => intro i c e; simp at e
  | cons _ ih =>
    intro i c e
    cases i with
    | zero => simp at e; subst e; exact ⟨_, rfl⟩
    | succ i => simp at e ⊢; exact ih e
theorem TxL.app {k : Bool} {cs ds : List (List Nat)} {vs us : List Value} (h : TxL k cs vs) (g : TxL k ds us) : TxL k (cs ++ ds) (vs ++ us) := by
  induction h with
  | nil => exact g
  | cons _ ih => exact .cons ih

namespace BF
noncomputable def posN (r : List Nat) (i : Nat) : List Nat := match r with
  | [] => []
  | c :: r => if c = 47 then i :: posN r (i + 1) else posN r (i + 1)
noncomputable def betN (l : List Nat) : List Nat → Nat → List (List Nat)
  | [], last => [l.drop last]
  | p :: ps, last => (l.drop last).take (p - last) :: betN l ps (p + 1)
noncomputable def glue (p : List Nat) : List (List Nat) → List (List Nat)
  | [] => [p]
  | h :: t => (p ++ h) :: t
theorem glue_nil {x : List (List Nat)} (h : x ≠ []) : glue [] x = x := by cases x with
  | nil => exact absurd rfl h
  | cons _ _ => rfl
theorem betN_pos (l : List Nat) : ∀ (r : List Nat) (i start : Nat), l.drop i = r → start ≤ i → i ≤ l.length → betN l (posN r i) start = glue ((l.drop start).take (i - start)) (sp47 r)
  | [], i, start, hr, hs, hi => by
    have : i = l.length := by
      have := congrArg List.length hr; rw [List.length_drop] at this; simp at this; omega
    subst this
    show [l.drop start] = [(l.drop start).take (l.length - start) ++ []]
    rw [List.append_nil, List.take_of_length_le (by simp)]
  | c :: r, i, start, hr, hs, hi => by
    have hlt : i < l.length := by
      rcases Nat.lt_or_ge i l.length with h | h
      · exact h
      · rw [List.drop_eq_nil_of_le h] at hr; cases hr
    have hr' : l.drop (i + 1) = r := by rw [← List.drop_drop, hr]; rfl
    have hc : l[i]? = some c := by
      have := congrArg List.head? hr
      rw [List.head?_drop] at this; exact this
    unfold posN
    by_cases h47 : c = 47
    · subst h47
      rw [if_pos rfl, sp_47]
      show (l.drop start).take (i - start) :: betN l (posN r (i + 1)) (i + 1) = ((l.drop start).take (i - start) ++ []) :: sp47 r
      rw [betN_pos l r (i + 1) (i + 1) hr' (Nat.le_refl _) hlt, Nat.sub_self, List.take_zero, glue_nil (sp_ne r), List.append_nil]
    · rw [if_neg h47, betN_pos l r (i + 1) start hr' (by omega) hlt]
      have e : (l.drop start).take (i + 1 - start) = (l.drop start).take (i - start) ++ [c] := by
        have : i + 1 - start = (i - start) + 1 := by omega
        rw [this, List.take_add_one, List.getElem?_drop]
        have : start + (i - start) = i := by omega
        rw [this, hc]; rfl
      rw [e]
      cases hsp : sp47 r with
      | nil => exact absurd hsp (sp_ne r)
      | cons h t =>
        rw [sp_other h47 hsp]
        show ((l.drop start).take (i - start) ++ [c] ++ h) :: t = ((l.drop start).take (i - start) ++ c :: h) :: t
        rw [List.append_assoc]; rfl
theorem betN_whole (l : List Nat) : betN l (posN l 0) 0 = sp47 l := by
  rw [betN_pos l l 0 0 rfl (Nat.le_refl _) (Nat.zero_le _)]
  show glue [] (sp47 l) = _
  exact glue_nil (sp_ne l)

/-- the octets of a list of numbers -/
abbrev oc (cs : List Nat) : Array UInt8 := (cs.map UInt8.ofNat).toArray
theorem oc_size (cs : List Nat) : (oc cs).size = cs.length := by simp [oc]
theorem oc_extract (cs : List Nat) (i j : Nat) : (oc cs).extract i j = oc ((cs.drop i).take (j - i)) := by
  apply Array.ext'
  simp [oc, List.extract_eq_take_drop, List.map_take, List.map_drop]
theorem oc_eq {a b : List Nat} (x : Oct a) (y : Oct b) : (oc a == oc b) = (a == b) := by
  rw [Bool.eq_iff_iff, beq_iff_eq, beq_iff_eq]
  constructor
  · intro e
    exact (oct_inj x y).mp (by simpa using congrArg Array.toList e)
  · intro e; rw [e]
theorem oct_sub {cs : List Nat} (o : Oct cs) (i n : Nat) : Oct ((cs.drop i).take n) := fun c hc => o c (List.mem_of_mem_drop (List.mem_of_mem_take hc))
theorem oct47 : Oct [47] := fun c hc => by simp at hc; omega
theorem at47 {cs : List Nat} (o : Oct cs) (i : Nat) : ((oc cs).extract i (i + (oc [47]).size) == oc [47]) = (cs[i]? == some 47) := by
  rw [oc_extract, oc_size, oc_eq (oct_sub o _ _) oct47]
  have : i + [47].length - i = 1 := by simp
  rw [this, Bool.eq_iff_iff, beq_iff_eq, beq_iff_eq]
  rw [List.take_one, List.head?_drop]
  cases cs[i]? <;> simp
theorem fold_pos (cs : List Nat) (p : Nat → Bool) (hp : ∀ i, p i = (cs[i]? == some 47)) : ∀ (r : List Nat) (i : Nat) (acc : List Nat) (free : Nat), cs.drop i = r → free ≤ i →
    ∃ free', ((List.range' i r.length).foldl (fun (acc : List Nat × Nat) j => if decide (j ≥ acc.2) && p j then (j :: acc.1, j + 1) else acc) (acc, free)) = ((posN r i).reverse ++ acc, free') := by
  intro r
  induction r with
  | nil => intro i acc free _ _; exact ⟨free, rfl⟩
  | cons c r ih =>
    intro i acc free hr hf
    have hr' : cs.drop (i + 1) = r := by rw [← List.drop_drop, hr]; rfl
    have hc : cs[i]? = some c := by
      have := congrArg List.head? hr
      rw [List.head?_drop] at this; exact this
    rw [List.length_cons, List.range'_succ, List.foldl_cons]
    have hd : decide (i ≥ free) = true := decide_eq_true hf
    unfold posN
    by_cases h47 : c = 47
    · have : (decide (i ≥ free) && p i) = true := by rw [hd, hp, hc, h47]; rfl
      rw [if_pos h47]
      simp only [this, if_true]
      obtain ⟨f', e⟩ := ih (i + 1) (i :: acc) (i + 1) hr' (Nat.le_refl _)
      exact ⟨f', by rw [e]; simp⟩
    · have : (decide (i ≥ free) && p i) = false := by
        rw [hd, hp, hc]; simp [h47]
      rw [if_neg h47]
      simp only [this, Bool.false_eq_true, if_false]
      exact ih (i + 1) acc free hr' (by omega)
theorem occ_eq {cs : List Nat} (o : Oct cs) : Bytes.occurrences (oc cs) (oc [47]) 0 (oc cs).size = posN cs 0 := by
  unfold Bytes.occurrences
  have e1 : (oc cs).size + 1 - (0 + (oc [47]).size) = cs.length := by rw [oc_size, oc_size]; simp
  have e2 : (List.range cs.length).map (· + 0) = List.range' 0 cs.length := by simp [List.range_eq_range']
  rw [e1, e2]
  obtain ⟨f', e⟩ := fold_pos cs (fun i => (oc cs).extract i (i + (oc [47]).size) == oc [47]) (at47 o) cs 0 [] 0 rfl (Nat.le_refl _)
  have e3 : (oc [47]).size = 1 := oc_size _
  have e' := e
  simp only [e3] at e' ⊢
  rw [e']; simp
theorem between_eq (cs : List Nat) : ∀ (ps : List Nat), Bytes.between (oc cs) 1 ps = (betN cs ps 0).map oc := by
  intro ps
  unfold Bytes.between
  have key : ∀ (ps : List Nat) (parts : Array (Array UInt8)) (last : Nat),
      (((ps.foldl (fun (x : Array (Array UInt8) × Nat) p => (x.1.push ((oc cs).extract x.2 p), p + 1)) (parts, last)).1).push
        ((oc cs).extract (ps.foldl (fun (x : Array (Array UInt8) × Nat) p => (x.1.push ((oc cs).extract x.2 p), p + 1)) (parts, last)).2 (oc cs).size)).toList = parts.toList ++ (betN cs ps last).map oc := by
    intro ps
    induction ps with
    | nil =>
      intro parts last
      simp only [List.foldl_nil, betN, List.map_cons, List.map_nil, Array.toList_push]
      rw [oc_extract, oc_size, List.take_of_length_le (by simp)]
    | cons p ps ih =>
      intro parts last
      rw [List.foldl_cons, ih]
      simp only [betN, List.map_cons, Array.toList_push, List.append_assoc, List.cons_append, List.nil_append]
      rw [oc_extract]
  simpa using key ps #[] 0
end BF
end Mine
end
section
open PySem PySem.W PyProof.Rows PySem.Calls PySem.Builtin
set_option maxRecDepth 100000
set_option maxHeartbeats 4000000
namespace Mine
namespace BF
section
variable {M : Model} {A : Around} {E : Value → Shared → Prop} {s : Shared}
theorem mapM_bytes : ∀ (ps : List (List Nat)) {s : Shared} {Q : List Value → Shared → Prop}, (∀ p ∈ ps, p.length ≤ 1048576) → (∀ vs s', Keeps s s' → TxL true ps vs → Q vs s') →
    wpAny M A ((ps.map oc).mapM (Bytes.Kind.new .bytes)) Q E s
  | [], s, Q, _, h => by
    rw [List.map_nil, List.mapM_nil]; exact wpAny_pure (h _ _ (Keeps.refl _) .nil)
  | p :: ps, s, Q, hz, h => by
    rw [List.map_cons, List.mapM_cons]
    refine wpAny_bind (wpAny_mkBytes (wpAny_bind (mapM_bytes ps (fun q hq => hz q (List.mem_cons_of_mem _ hq)) fun vs s' k hv => wpAny_pure ?_)) ?_)
    · exact h _ _ (Keeps.trans (Keeps.tk _ _) k) (.cons (t := s.toks) hv)
    · rw [oc_size, sizeLine_eq]; have := hz p List.mem_cons_self; omega
end
theorem posN_length (r : List Nat) : ∀ i, (posN r i).length ≤ r.length := by
  induction r with
  | nil => intro i; simp [posN]
  | cons c r ih =>
    intro i
    unfold posN
    split
    · simp; exact ih _
    · have := ih (i + 1); simp; omega
theorem posN_nil {r : List Nat} : ∀ {i : Nat}, posN r i = [] → 47 ∉ r := by
  induction r with
  | nil => intro i _ h; cases h
  | cons c r ih =>
    intro i h
    unfold posN at h
    split at h
    · cases h
    · rename_i hc
      intro hm
      rcases List.mem_cons.mp hm with e | e
      · exact hc e.symm
      · exact ih h e
theorem sp_len (cs : List Nat) : (sp47 cs).length ≤ cs.length + 1 := by
  induction cs with
  | nil => simp [sp47]
  | cons c r ih =>
    unfold sp47
    split
    · simp; exact ih
    · split
      · rename_i h t e; rw [e] at ih; simp at ih ⊢; omega
      · simp
theorem sp_part_len (cs : List Nat) : ∀ p ∈ sp47 cs, p.length ≤ cs.length := by
  induction cs with
  | nil => intro p hp; simp [sp47] at hp; subst hp; simp
  | cons c r ih =>
    intro p hp
    unfold sp47 at hp
    split at hp
    · rcases List.mem_cons.mp hp with rfl | hp
      · simp
      · have := ih p hp; simp; omega
    · split at hp
      · rename_i h t e
        rw [e] at ih
        rcases List.mem_cons.mp hp with rfl | hp
        · have := ih h List.mem_cons_self; simp; omega
        · have := ih p (List.mem_cons_of_mem _ hp); simp; omega
      · simp at hp; subst hp; simp
theorem split_meets (cs : List Nat) (t u : Tok) (o : Oct cs) (hsz : cs.length ≤ 1048576) : Meets («bytes.split» ⟨[.bytes (oc cs) t, .bytes (oc [47]) u], []⟩)
    (fun _ R s => ∀ a vs s', Keeps s s' → s.heap.get? a = none → TxL true (sp47 cs) vs → s'.heap.PlainList a vs.toArray → R (.ok (.ret (.ref a))) s') := by
  refine .of_wp fun prog w A R s h => ?_
  show wpAny _ _ (Bytes.splitM .bytes "split" false ⟨[.bytes (oc cs) t, .bytes (oc [47]) u], []⟩) _ _ s
  unfold Bytes.splitM
  refine wpAny_bind (wpAny_of_eq (a := [some (Value.bytes (oc [47]) u), none]) (by kernel_rfl) ?_)
  refine wpAny_bind (wpAny_of_eq (a := -1) rfl ?_)
  refine wpAny_bind (wpAny_of_eq (a := oc cs) rfl ?_)
  refine wpAny_bind ?_
  unfold Bytes.bytesLike
  refine wpAny_bind (wpAny_of_eq (a := some (oc [47])) KBy.buffer_eq ?_)
  refine wpAny_pure ?_
  show wpAny _ _ (if ((Bytes.occurrences (oc cs) (oc [47]) 0 (oc cs).size).take ((oc cs).size + 1)).isEmpty = true then _ else _) _ _ s
  have hp : (Bytes.occurrences (oc cs) (oc [47]) 0 (oc cs).size).take ((oc cs).size + 1) = posN cs 0 := by
    rw [occ_eq o, oc_size]; exact List.take_of_length_le (by have := posN_length cs 0; omega)
  have fr : s.heap.get? s.heap.objs.size = none := by
    cases e : s.heap.get? s.heap.objs.size with
    | none => rfl
    | some o => exact absurd (Heap.lt_size e) (Nat.lt_irrefl _)
  by_cases he : ((Bytes.occurrences (oc cs) (oc [47]) 0 (oc cs).size).take ((oc cs).size + 1)).isEmpty = true
  · rw [if_pos he]
    rw [hp] at he
    have hfree : 47 ∉ cs := posN_nil (List.isEmpty_iff.mp he)
    refine wpAny_bind (wpAny_rule (wpAny_bind (wpAny_of_eq (a := Value.bytes (oc cs) t) rfl (wpAny_bind (wpAny_newList ?_ (by rw [sizeLine_eq]; simp))))))
    refine wpAny_pure ⟨_, rfl, ?_⟩
    refine h _ [tx true cs t] _ (Keeps.push _ _) fr ?_ ⟨_, Heap.get?_push_size _ rfl⟩
    rw [sp_free_one hfree]; exact .cons .nil
  · rw [if_neg he]
    show wpAny _ _ ((Bytes.between (oc cs) 1 ((Bytes.occurrences (oc cs) (oc [47]) 0 (oc cs).size).take ((oc cs).size + 1))).mapM (Bytes.Kind.new .bytes) >>= _) _ _ s
    rw [hp, between_eq, betN_whole]
    refine wpAny_bind (mapM_bytes _ (fun p hp => Nat.le_trans (sp_part_len cs p hp) hsz) fun vs s' k hv => ?_)
    have fr' : s'.heap.get? s'.heap.objs.size = none := by
      cases e : s'.heap.get? s'.heap.objs.size with
      | none => rfl
      | some o => exact absurd (Heap.lt_size e) (Nat.lt_irrefl _)
    refine wpAny_bind (wpAny_newList ?_ (by rw [sizeLine_eq, hv.len]; have := sp_len cs; omega))
    refine wpAny_pure ⟨_, rfl, h _ vs _ (Keeps.trans k (Keeps.push _ _)) ?_ hv ⟨_, Heap.get?_push_size _ rfl⟩⟩
    cases e : s.heap.get? s'.heap.objs.size with
    | none => rfl
    | some o => exact absurd (Keeps.up k _ _ e) (by rw [fr']; simp)

theorem take_eq {id : String} {b : Array UInt8} {t : Tok} : Bytes.takeBufferQuiet? id (.bytes b t) 0 = pure (some (b, none)) := by
  unfold Bytes.takeBufferQuiet? Bytes.takeBuffer?
  rw [KBy.special_eq KBy.look_buffer, KBy.own_buffer]
  have : Bytes.buffer? id (.bytes b t) = pure (some b) := KBy.buffer_eq
  have e : ((0 : Int) == Bytes.fullReadOnly) = false := by decide
  rw [e, this]
  rfl
theorem joined_eq : ∀ (ps : List (List Nat)), Bytes.joined (oc [47]) (ps.map oc) = oc (jn47 ps) := by
  have key : ∀ (ps : List (List Nat)) (n : Nat) (acc : List Nat), 0 < n →
      ((ps.map oc).zipIdx n).foldl (fun out (x : Array UInt8 × Nat) => (if x.2 > 0 then out ++ oc [47] else out) ++ x.1) (oc acc) = oc (acc ++ (ps.map (fun p => 47 :: p)).flatten) := by
    intro ps
    induction ps with
    | nil => intro n acc _; simp
    | cons p ps ih =>
      intro n acc hn
      rw [List.map_cons, List.zipIdx_cons, List.foldl_cons]
      simp only [hn, if_true, gt_iff_lt]
      have e : oc acc ++ oc [47] ++ oc p = oc (acc ++ (47 :: p)) := by
        apply Array.ext'; simp [oc]
      rw [e, ih (n + 1) _ (by omega)]
      simp
  have key2 : ∀ (ps : List (List Nat)) (x : List Nat), x ++ (ps.map (fun p => 47 :: p)).flatten = jn47 (x :: ps) := by
    intro ps
    induction ps with
    | nil => intro x; simp [jn47]
    | cons p ps ih => intro x; rw [List.map_cons, List.flatten_cons]; show x ++ (47 :: p ++ _) = x ++ 47 :: jn47 (p :: ps); rw [← ih p]; simp
  intro ps
  cases ps with
  | nil => rfl
  | cons p ps =>
    unfold Bytes.joined
    rw [List.map_cons, List.zipIdx_cons, List.foldl_cons]
    have e : (if (0 : Nat) > 0 then (#[] : Array UInt8) ++ oc [47] else #[]) ++ oc p = oc p := by
      rw [if_neg (by omega)]; simp
    have k1 := key ps (0 + 1) p (by omega)
    rw [key2] at k1
    rw [← k1]
    show List.foldl _ ((if (0 : Nat) > 0 then (#[] : Array UInt8) ++ oc [47] else #[]) ++ oc p) _ = _
    rw [e]
theorem joinLetGo_none {M : Model} {A : Around} {E : Value → Shared → Prop} {s : Shared} : ∀ (tk : List (Value × Option Value)) (keep : List Value) {Q : Unit → Shared → Prop}, (∀ x ∈ tk, x.2 = none) → Q () s →
    wpAny M A (Bytes.joinLetGo tk keep) Q E s
  | [], keep, Q, _, h => wpAny_pure h
  | (x, w) :: r, keep, Q, hn, h => by
    have hw : w = none := hn (x, w) List.mem_cons_self
    subst hw
    unfold Bytes.joinLetGo
    refine wpAny_bind ?_
    show wpAny M A (letGo [x] _) _ _ s
    unfold letGo
    refine wpAny_bind (wpAny_holding (wpAny_point ?_))
    exact wpAny_pure (joinLetGo_none r keep (fun y hy => hn y (List.mem_cons_of_mem _ hy)) h)
theorem jn_len : ∀ ps : List (List Nat), (jn47 ps).length + 1 ≤ (ps.map List.length).sum + ps.length + 1
  | [] => by simp [jn47]
  | [x] => by simp [jn47]
  | x :: y :: r => by
    have := jn_len (y :: r)
    simp only [jn47, List.length_append, List.length_cons, List.map_cons, List.sum_cons] at this ⊢
    omega
theorem join_meets (ps : List (List Nat)) (vs : List Value) (t : Tok) (a : Addr) (hv : TxL true ps vs) (hsz : (ps.map List.length).sum + ps.length ≤ 1048576) :
    Meets («bytes.join» ⟨[.bytes (oc [47]) t, .ref a], []⟩)
    (fun _ R s => s.heap.IsList a vs.toArray ∧ ∀ t' s', Keeps s s' → R (.ok (.ret (tx true (jn47 ps) t'))) s') := by
  refine .of_wp fun prog w A R s h => ?_
  obtain ⟨hl, hR⟩ := h
  obtain ⟨o, ho, hc, n, hd⟩ := id hl
  show wpAny _ _ (Bytes.joinM .bytes ⟨[.bytes (oc [47]) t, .ref a], []⟩) _ _ s
  unfold Bytes.joinM
  refine wpAny_bind (wpAny_of_eq (a := (Value.bytes (oc [47]) t, Value.ref a)) rfl ?_)
  refine wpAny_bind ?_
  unfold Bytes.joinItems
  refine wpAny_bind (wpAny_typeOf hl.typeIs ?_)
  refine wpAny_pure ?_
  refine wpAny_bind (wpAny_seqItems ho hd ?_)
  have onh : ∀ (c : List Nat) (u : Tok), (tx true c u).onHeap = false := fun _ _ => rfl
  have fin : ∀ (parts : Array (Array UInt8)) (taken : List (Value × Option Value)) (s' : Shared), Keeps s s' → parts.toList = ps.map oc → (∀ x ∈ taken, x.2 = none) →
      ∀ (f : Array UInt8 → Sem PySem.Fin), (∀ sep, f sep = (do
        if Bytes.tooLong (parts.foldl (· + ·.size) (sep.size * (parts.size - 1))) then unsupported (toString "bytes.join" ++ toString ":memory")
        let result ← Bytes.Kind.new .bytes (Bytes.joined sep parts.toList)
        holding (result :: taken.flatMap fun (y, u) => y :: u.toList) point
        Bytes.joinLetGo taken [result]
        ret result)) → wpAny (model prog w) A.in1 (Bytes.payload (Value.bytes (oc [47]) t) >>= f) (fun fin s' => ∃ v, fin = Fin.done (Flow.ret v) ∧ R (Except.ok (Flow.ret v)) s') (fun e s' => R (Except.error e) s') s' := by
    intro parts taken s' hk hp ht f hf
    refine wpAny_bind (wpAny_of_eq (a := oc [47]) rfl ?_)
    rw [hf]
    have hfold : parts.foldl (· + ·.size) ((oc [47]).size * (parts.size - 1)) ≤ (ps.map List.length).sum + ps.length := by
      rw [← Array.foldl_toList, hp]
      have : ∀ (l : List (List Nat)) (n : Nat), (l.map oc).foldl (fun n (x : Array UInt8) => n + x.size) n = n + (l.map List.length).sum := by
        intro l
        induction l with
        | nil => intro n; simp
        | cons c l ih => intro n; simp only [List.map_cons, List.foldl_cons, List.sum_cons]; rw [ih, oc_size]; omega
      rw [this, oc_size]
      have : parts.size = ps.length := by have := congrArg List.length hp; simpa using this
      simp; omega
    rw [if_neg (by rw [KBy.tooLong_not (by omega)]; exact Bool.false_ne_true)]
    rw [hp, joined_eq]
    refine wpAny_bind (wpAny_mkBytes ?_ (by rw [oc_size, sizeLine_eq]; have := jn_len ps; omega))
    refine wpAny_bind (wpAny_holding (wpAny_point ?_))
    refine wpAny_bind (joinLetGo_none _ _ ht ?_)
    exact wpAny_pure ⟨_, rfl, hR _ _ (Keeps.trans hk (Keeps.tk _ _))⟩
  have one : (∃ c u, ps = [c] ∧ vs = [tx true c u]) ∨ ps.length ≠ 1 := by
    cases hv with
    | nil => exact .inr (by simp)
    | cons hv => cases hv with
      | nil => exact .inl ⟨_, _, rfl, rfl⟩
      | cons hv => exact .inr (by simp)
  rcases one with ⟨c, u, rfl, rfl⟩ | hone
  · refine wpAny_bind (m := typeOf (tx true c u)) (wpAny_of_eq (a := Value.type "bytes") rfl ?_)
    exact wpAny_bind (wpAny_rule (wpAny_pure ⟨_, rfl, hR _ _ (Keeps.refl _)⟩))
  · cases vs with
    | nil =>
      have hps : ps = [] := by cases hv; rfl
      subst hps
      refine wpAny_bind ?_
      rw [Std.Legacy.Range.forIn_eq_forIn_range']
      refine wpAny_pure ?_
      exact fin #[] [] _ (Keeps.refl _) rfl (fun x hx => nomatch hx) _ fun sep => rfl
    | cons v1 r1 =>
      cases r1 with
      | nil => exact absurd hv.len.symm hone
      | cons v2 r =>
        refine wpAny_bind ?_
        rw [Std.Legacy.Range.forIn_eq_forIn_range']
        refine wpAny_forIn_list _ (fun rest (x : Array (Array UInt8) × List (Value × Option Value)) s' => s' = s ∧ ∃ i : Nat, i + rest.length = ps.length ∧ rest = List.range' i rest.length ∧ x.1.toList = (ps.take i).map oc ∧ ∀ y ∈ x.2, y.2 = none ∧ y.1.onHeap = false) _ ?_ ?_ _ _ ?_
        · rintro j rest ⟨parts, taken⟩ s' ⟨rfl, i, hlen, hrange, hparts, htaken⟩
          have hj : j = i := by
            rw [List.length_cons, List.range'_succ] at hrange
            exact (List.cons.inj hrange).1
          subst hj
          have hrest : rest = List.range' (j + 1) rest.length := by
            rw [List.length_cons, List.range'_succ] at hrange
            exact (List.cons.inj hrange).2
          have hjl : j < ps.length := by rw [List.length_cons] at hlen; omega
          obtain ⟨u, hu⟩ := hv.get (i := j) (c := ps[j]) (List.getElem?_eq_getElem hjl)
          refine wpAny_bind (wpAny_seqItems ho hd ?_)
          have hx : ((v1 :: v2 :: r).toArray).getD j Value.none = tx true ps[j] u := by
            rw [Array.getD_eq_getD_getElem?, List.getElem?_toArray, hu]; rfl
          have hnone : (taken.any fun x => x.1.onHeap) = false := by
            rw [List.any_eq_false]; intro y hy; rw [(htaken y hy).2]; exact Bool.false_ne_true
          simp only [hx, hnone]
          show wpAny _ _ (holding _ (Bytes.takeBufferQuiet? _ (Value.bytes (oc ps[j]) u) 0) >>= _) _ _ _
          refine wpAny_bind (wpAny_holding (wpAny_of_eq (a := some (oc ps[j], none)) take_eq ?_))
          refine wpAny_bind (wpAny_seqItems ho hd ?_)
          have hsz2 : (((v1 :: v2 :: r).toArray).size != ((v1 :: v2 :: r).toArray).size) = false := by simp
          simp only [hsz2]
          refine wpAny_pure ?_
          refine ⟨rfl, j + 1, by rw [List.length_cons] at hlen; omega, hrest, ?_, ?_⟩
          · show (parts.push (oc ps[j])).toList = _
            rw [Array.toList_push, show parts.toList = (ps.take j).map oc from hparts, List.take_add_one, List.getElem?_eq_getElem hjl, List.map_append]; rfl
          · intro y hy
            rcases List.mem_append.mp hy with hy | hy
            · exact htaken y hy
            · rw [List.mem_singleton.mp hy]; exact ⟨rfl, rfl⟩
        · rintro ⟨parts, taken⟩ s' ⟨rfl, i, hlen, _, hparts, htaken⟩
          have hi : i = ps.length := by simpa using hlen
          refine fin parts taken _ (Keeps.refl _) (by rw [hparts, hi, List.take_length]) (fun x hx => (htaken x hx).1) _ fun sep => rfl
        · refine ⟨rfl, 0, ?_, ?_, rfl, fun y hy => nomatch hy⟩
          · have := hv.len; simp at this ⊢; omega
          · simp
end BF
end Mine
end
section
open PySem PySem.W PyProof.Rows PySem.Calls PySem.Builtin
set_option maxRecDepth 100000
set_option maxHeartbeats 4000000
namespace Mine
open BF

abbrev sOf (cs : List Nat) : Str := ⟨cs.toArray⟩
theorem sOf_len (cs : List Nat) : (sOf cs).length = cs.length := by show cs.toArray.size = _; simp
theorem sw_str (cs : List Nat) : Txt.startswith (sOf cs) (sOf [47]) = sw cs := by
  unfold Txt.startswith sw
  rw [StrLaws.subAt_eq, sOf_len, sOf_len]
  cases cs with
  | nil => rfl
  | cons c r => simp
theorem ew_str (cs : List Nat) : Txt.endswith (sOf cs) (sOf [47]) = ew cs := by
  unfold Txt.endswith ew
  rw [StrLaws.subAt_eq, sOf_len, sOf_len]
  rcases List.eq_nil_or_concat cs with rfl | ⟨r, c, rfl⟩
  · rfl
  · simp
theorem sw_oc {cs : List Nat} (o : Oct cs) : (if ((oc cs).size : Int) < (oc [47]).size then false else (oc cs).extract 0 (oc [47]).size == oc [47]) = sw cs := by
  have := at47 o 0
  rw [Nat.zero_add] at this
  rw [this, oc_size, oc_size]
  unfold sw
  cases cs with
  | nil => rfl
  | cons c r =>
    rw [if_neg (by simp; omega)]
    simp
theorem ew_oc {cs : List Nat} (o : Oct cs) : (if ((oc cs).size : Int) < (oc [47]).size then false else (oc cs).extract ((oc cs).size - (oc [47]).size) (oc cs).size == oc [47]) = ew cs := by
  rw [oc_size, oc_size]
  unfold ew
  rcases List.eq_nil_or_concat cs with rfl | ⟨r, c, rfl⟩
  · rfl
  · rw [if_neg (by simp; omega), oc_extract, oc_eq (oct_sub o _ _) oct47]
    simp
noncomputable def lastIx (cs : List Nat) : Int := ((hd47 cs).length : Int) - 1
theorem rf_str (cs : List Nat) : Txt.rfind (sOf cs) (sOf [47]) = lastIx cs := by
  have hat : ∀ i, StrLaws.At (sOf cs) (sOf [47]) (sOf cs).length i ↔ cs[i]? = some 47 := by
    intro i
    unfold StrLaws.At
    rw [StrLaws.subAt_eq, sOf_len, sOf_len]
    show i + 1 ≤ cs.length ∧ ((cs.drop i).take 1 == [47]) = true ↔ _
    rw [List.take_one, List.head?_drop]
    constructor
    · rintro ⟨_, h⟩
      cases e : cs[i]? with
      | none => rw [e] at h; cases h
      | some c => rw [e] at h; simp at h; rw [h]
    · intro h
      have := (List.getElem?_eq_some_iff.mp h).1
      exact ⟨this, by rw [h]; rfl⟩
  unfold lastIx
  rcases rfind_whole (sOf cs) (sOf [47]) with ⟨e, hn⟩ | ⟨i, e, hi, hn⟩
  · rw [e, hd_len_none fun i h => hn i ((hat i).mpr h)]; rfl
  · rw [e, hd_len_some ((hat i).mp hi) fun k hk h => hn k hk ((hat k).mpr h)]; omega
theorem rf_oc {cs : List Nat} (o : Oct cs) : (match Bytes.rfind? (oc cs) (oc [47]) 0 (oc cs).size with | some i => (i : Int) | none => -1) = lastIx cs := by
  unfold Bytes.rfind? lastIx
  have e1 : (oc cs).size + 1 - (0 + (oc [47]).size) = cs.length := by rw [oc_size, oc_size]; simp
  have e2 : (List.range cs.length).map (· + 0) = List.range cs.length := by simp
  rw [e1, e2]
  have hp : (fun i => (oc cs).extract i (i + (oc [47]).size) == oc [47]) = fun i => cs[i]? == some 47 := funext fun i => at47 o i
  rw [hp]
  cases hf : (List.range cs.length).reverse.find? (fun i => cs[i]? == some 47) with
  | none =>
    rw [hd_len_none]
    · rfl
    · intro i hi
      have hlt := (List.getElem?_eq_some_iff.mp hi).1
      have := List.find?_eq_none.mp hf i (by simp; exact hlt)
      rw [hi] at this; simp at this
  | some i =>
    have h1 := List.find?_some hf
    obtain ⟨hpi, as, bs, hsplit, hnot⟩ := List.find?_eq_some_iff_append.mp hf
    have hi : cs[i]? = some 47 := by simpa using h1
    rw [hd_len_some hi]
    · simp
    · intro k hk hk47
      have hlt := (List.getElem?_eq_some_iff.mp hk47).1
      have hsorted : (List.range cs.length).reverse.Pairwise (· > ·) := by
        rw [List.pairwise_reverse]; exact List.pairwise_lt_range
      rw [hsplit] at hsorted
      have hkm : k ∈ (List.range cs.length).reverse := by simp; exact hlt
      rw [hsplit] at hkm
      rcases List.mem_append.mp hkm with hm | hm
      · have := hnot k hm
        rw [hk47] at this; simp at this
      · rcases List.mem_cons.mp hm with e | hm
        · omega
        · have := (List.pairwise_append.mp hsorted).2.1
          have := (List.pairwise_cons.mp this).1 k hm
          omega
end Mine
end
section
open PySem PySem.W PyProof.Rows PySem.Calls PySem.Builtin
set_option maxRecDepth 100000
set_option maxHeartbeats 4000000
namespace Mine
open BF

theorem take_dropWhile_rev (p : Nat → Bool) (l : List Nat) : (l.reverse.dropWhile p).reverse = l.take (l.length - (l.reverse.takeWhile p).length) := by
  have h := List.takeWhile_append_dropWhile (p := p) (l := l.reverse)
  have e : l = (l.reverse.dropWhile p).reverse ++ (l.reverse.takeWhile p).reverse := by
    rw [← List.reverse_append, h, List.reverse_reverse]
  have hl : l.length - (l.reverse.takeWhile p).length = (l.reverse.dropWhile p).reverse.length := by
    have := congrArg List.length e; rw [List.length_append, List.length_reverse, List.length_reverse] at this; rw [List.length_reverse]; omega
  rw [hl]
  conv => rhs; arg 2; rw [e]
  rw [List.take_left']; rfl
theorem rs_str (cs : List Nat) : Txt.rstripChars (sOf cs) (sOf [47]) = sOf (rs47 cs) := by
  have hc : (fun c => (sOf [47]).cps.contains c) = fun c => c == 47 := by funext c; simp [Array.contains]
  have hgoes : (sOf [47]).cps.contains = fun c => c == 47 := hc
  unfold Txt.rstripChars
  rw [hgoes]
  have hsub : PySem.stripped (fun c => c == 47) false true (sOf cs) = sOf (rs47 cs) := by
    unfold PySem.stripped stripHi stripLo
    rw [strSub_mk]
    show (⟨(((cs.toArray.toList).drop 0).take ((sOf cs).length - (((cs.toArray.toList).drop 0).reverse.takeWhile fun c => c == 47).length - 0)).toArray⟩ : Str) = _
    rw [sOf_len]
    simp only [List.drop_zero, Nat.sub_zero]
    unfold rs47
    rw [take_dropWhile_rev]
  unfold Txt.stripBy
  split
  · rename_i h
    unfold stripSame stripHi stripLo at h
    rw [sOf_len] at h
    have : ((cs.reverse.takeWhile fun c => c == 47)).length = 0 ∨ cs.length = 0 := by
      simp at h
      omega
    have : rs47 cs = cs := by
      unfold rs47
      rw [take_dropWhile_rev]
      rcases this with h | h
      · rw [h]; simp
      · rw [h]; have : cs = [] := List.eq_nil_of_length_eq_zero h; rw [this]; rfl
    rw [this]
  · exact hsub
theorem rs_oc {cs : List Nat} (o : Oct cs) : ((oc cs).toList.reverse.dropWhile (oc [47]).contains).reverse = (rs47 cs).map UInt8.ofNat := by
  have hc : (oc [47]).contains = fun c => c == 47 := by funext c; simp [Array.contains, oc]
  rw [hc]
  unfold rs47
  have key : ∀ (l : List Nat), Oct l → (l.map UInt8.ofNat).dropWhile (fun c => c == 47) = (l.dropWhile (· == 47)).map UInt8.ofNat := by
    intro l
    induction l with
    | nil => intro _; rfl
    | cons c r ih =>
      intro ol
      have hcl := ol c List.mem_cons_self
      have : (UInt8.ofNat c == 47) = (c == 47) := by
        rw [Bool.eq_iff_iff, beq_iff_eq, beq_iff_eq]
        constructor
        · intro e
          have := congrArg UInt8.toNat e
          simp only [UInt8.toNat_ofNat'] at this
          have h47 : (47 : UInt8).toNat = 47 := rfl
          omega
        · intro e; rw [e]; rfl
      rw [List.map_cons, List.dropWhile_cons, List.dropWhile_cons, this]
      split
      · exact ih fun x hx => ol x (List.mem_cons_of_mem _ hx)
      · rfl
  show ((cs.map UInt8.ofNat).reverse.dropWhile _).reverse = _
  rw [← List.map_reverse, key _ (fun x hx => o x (List.mem_reverse.mp hx)), ← List.map_reverse]

theorem sp_str (cs : List Nat) : (Txt.split (sOf cs) (sOf [47])).map (·.cps.toList) = sp47 cs := by
  have hj := StrLaws.join_split (sOf cs) (sOf [47])
  have hf := StrLaws.split_free (sOf cs) 47
  generalize hL : Txt.split (sOf cs) (sOf [47]) = L at hj hf ⊢
  have hf' : ∀ p ∈ L, 47 ∉ p.cps.toList := hf
  have key : ∀ L : List PySem.Str, (PySem.Str.join (sOf [47]) L).cps.toList = jn47 (L.map (·.cps.toList)) := by
    intro L
    induction L with
    | nil => rfl
    | cons x r ih =>
      cases r with
      | nil => rfl
      | cons y r =>
        have e : jn47 ((x :: y :: r).map fun p : PySem.Str => p.cps.toList) = x.cps.toList ++ 47 :: jn47 ((y :: r).map fun p : PySem.Str => p.cps.toList) := rfl
        have e2 : PySem.Str.join (sOf [47]) (x :: y :: r) = (x ++ sOf [47]) ++ PySem.Str.join (sOf [47]) (y :: r) := rfl
        rw [e, e2, ← ih, PySem.Str.cps_append, PySem.Str.cps_append]; simp
  have hne : L ≠ [] := by
    intro e
    subst e
    unfold Txt.split at hL
    split at hL
    · cases hL
    · split at hL
      · cases hL
      · have := congrArg List.length hL
        rw [len_partsBetween] at this
        simp at this
  refine sp_uniq (by simpa using hne) (fun p hp => ?_) ?_
  · obtain ⟨q, hq, rfl⟩ := List.mem_map.mp hp
    exact hf' q hq
  · rw [← key, hj]
end Mine
end
section
open PySem PySem.W PyProof.Rows PySem.Calls PySem.Builtin
set_option maxRecDepth 100000
set_option maxHeartbeats 4000000
namespace Mine
open BF

theorem sizeLine16 : sizeLine = 16777216 := sizeLine_eq

noncomputable def mSt (k : Bool) : String := if k then "bytes.startswith" else "str.startswith"
noncomputable def mEn (k : Bool) : String := if k then "bytes.endswith" else "str.endswith"
noncomputable def mRf (k : Bool) : String := if k then "bytes.rfind" else "str.rfind"
noncomputable def mRs (k : Bool) : String := if k then "bytes.rstrip" else "str.rstrip"
noncomputable def mSp (k : Bool) : String := if k then "bytes.split" else "str.split"
noncomputable def mJn (k : Bool) : String := if k then "bytes.join" else "str.join"

section
variable {M : Model} {A : Around} {E : Value → Shared → Prop} {s : Shared} {k : Bool} {cs ds : List Nat} {t u : Tok} {pl : Sem Bool} {Q : Value × List Value → Shared → Prop}
theorem noRefB {b : Array UInt8} : ∀ a, Value.bytes b t = .ref a → ∃ o, s.heap.get? a = some o ∧ o.dict = none := fun _ e => nomatch e
theorem gm_st (h : Q (.builtin (mSt k), [tx k cs t]) s) : wpAny M A (getMethod (tx k cs t) "startswith" pl) Q E s := by
  cases k
  · have h' : Q (Value.builtin "str.startswith", [Value.str (sOf cs) t]) s := h
    show wpAny M A (getMethod (Value.str (sOf cs) t) (PySem.Str.ofString "startswith") pl) Q E s
    with_reducible exact GM.startswith h'
  · have h' : Q (Value.builtin "bytes.startswith", [Value.bytes (oc cs) t]) s := h
    show wpAny M A (getMethod (Value.bytes (oc cs) t) (PySem.Str.ofString "startswith") pl) Q E s
    with_reducible exact getMethod_builtin (typeIs_bytes _ _ _) FB.plainAttrs_bytes FB.slot_bytes_startswith FB.type_bytes_startswith noRefB h'
theorem gm_en (h : Q (.builtin (mEn k), [tx k cs t]) s) : wpAny M A (getMethod (tx k cs t) "endswith" pl) Q E s := by
  cases k
  · have h' : Q (Value.builtin "str.endswith", [Value.str (sOf cs) t]) s := h
    show wpAny M A (getMethod (Value.str (sOf cs) t) (PySem.Str.ofString "endswith") pl) Q E s
    with_reducible exact GM.endswith h'
  · have h' : Q (Value.builtin "bytes.endswith", [Value.bytes (oc cs) t]) s := h
    show wpAny M A (getMethod (Value.bytes (oc cs) t) (PySem.Str.ofString "endswith") pl) Q E s
    with_reducible exact getMethod_builtin (typeIs_bytes _ _ _) FB.plainAttrs_bytes FB.slot_bytes_endswith FB.type_bytes_endswith noRefB h'
theorem gm_rf (h : Q (.builtin (mRf k), [tx k cs t]) s) : wpAny M A (getMethod (tx k cs t) "rfind" pl) Q E s := by
  cases k
  · have h' : Q (Value.builtin "str.rfind", [Value.str (sOf cs) t]) s := h
    show wpAny M A (getMethod (Value.str (sOf cs) t) (PySem.Str.ofString "rfind") pl) Q E s
    with_reducible exact GM.rfind h'
  · have h' : Q (Value.builtin "bytes.rfind", [Value.bytes (oc cs) t]) s := h
    show wpAny M A (getMethod (Value.bytes (oc cs) t) (PySem.Str.ofString "rfind") pl) Q E s
    with_reducible exact getMethod_builtin (typeIs_bytes _ _ _) FB.plainAttrs_bytes slot_rfind type_rfind noRefB h'
theorem gm_rs (h : Q (.builtin (mRs k), [tx k cs t]) s) : wpAny M A (getMethod (tx k cs t) "rstrip" pl) Q E s := by
  cases k
  · have h' : Q (Value.builtin "str.rstrip", [Value.str (sOf cs) t]) s := h
    show wpAny M A (getMethod (Value.str (sOf cs) t) (PySem.Str.ofString "rstrip") pl) Q E s
    with_reducible exact GM.rstrip h'
  · have h' : Q (Value.builtin "bytes.rstrip", [Value.bytes (oc cs) t]) s := h
    show wpAny M A (getMethod (Value.bytes (oc cs) t) (PySem.Str.ofString "rstrip") pl) Q E s
    with_reducible exact getMethod_builtin (typeIs_bytes _ _ _) FB.plainAttrs_bytes slot_rstrip type_rstrip noRefB h'
theorem gm_sp (h : Q (.builtin (mSp k), [tx k cs t]) s) : wpAny M A (getMethod (tx k cs t) "split" pl) Q E s := by
  cases k
  · have h' : Q (Value.builtin "str.split", [Value.str (sOf cs) t]) s := h
    show wpAny M A (getMethod (Value.str (sOf cs) t) (PySem.Str.ofString "split") pl) Q E s
    with_reducible exact GM.split h'
  · have h' : Q (Value.builtin "bytes.split", [Value.bytes (oc cs) t]) s := h
    show wpAny M A (getMethod (Value.bytes (oc cs) t) (PySem.Str.ofString "split") pl) Q E s
    with_reducible exact getMethod_builtin (typeIs_bytes _ _ _) FB.plainAttrs_bytes slot_split type_split noRefB h'
theorem gm_jn (h : Q (.builtin (mJn k), [tx k cs t]) s) : wpAny M A (getMethod (tx k cs t) "join" pl) Q E s := by
  cases k
  · have h' : Q (Value.builtin "str.join", [Value.str (sOf cs) t]) s := h
    show wpAny M A (getMethod (Value.str (sOf cs) t) (PySem.Str.ofString "join") pl) Q E s
    with_reducible exact GM.join h'
  · have h' : Q (Value.builtin "bytes.join", [Value.bytes (oc cs) t]) s := h
    show wpAny M A (getMethod (Value.bytes (oc cs) t) (PySem.Str.ofString "join") pl) Q E s
    with_reducible exact getMethod_builtin (typeIs_bytes _ _ _) FB.plainAttrs_bytes slot_join type_join noRefB h'
end
section
variable {M : Model} {A : Around} {E : Value → Shared → Prop} {s : Shared} {env : Env}
theorem cm1 {pos : Pos} {id : String} {o : Value} {e : Expr} {rest : List Expr} {Q : Value → Shared → Prop}
    (h : wpAny M A (spliced (backTo pos (starEach (e :: rest) env))) (fun vs s₁ => wpAny M A (call (.builtin id) (o :: vs)) Q E s₁) E s)
    (he : starEach (e :: rest) env = (false, eval e env) :: starEach rest env)
    (hplain : (backTo pos (starEach rest env)).any (·.1) = false) :
    wpAny M A (callWith pos (.builtin id) [o] (backTo pos (starEach (e :: rest) env)) []) Q E s := callWith_method1 h he hplain
theorem cm0 {pos : Pos} {id : String} {o : Value} {Q : Value → Shared → Prop} (h : wpAny M A (call (.builtin id) [o]) Q E s) :
    wpAny M A (callWith pos (.builtin id) [o] (backTo pos (starEach [] env)) []) Q E s := callWith_method0 h
end

section
variable {prog : Program} {w : World} {A : Around} {E : Value → Shared → Prop} {s : Shared} {k : Bool} {cs ds : List Nat} {t u : Tok} {Q : Value → Shared → Prop}

theorem c_st (o : Oct cs) (h : Q (.bool (sw cs)) s) : wpAny (model prog w) A (call (.builtin (mSt k)) [tx k cs t, tx k [47] u]) Q E s := by
  cases k
  · exact SC.startswith (x := sOf cs) (y := sOf [47]) (by rw [sw_str]; exact h)
  · exact call_gives FB.slot_bytes_startswith (typeIs_bytes _ _ _) FB.entry_bytes_startswith (FB.args_bytes_startswith_2 _ _) (starts_gives (oc cs) (oc [47]) t u) (by rw [sw_oc o]; exact h)
theorem c_en (o : Oct cs) (h : Q (.bool (ew cs)) s) : wpAny (model prog w) A (call (.builtin (mEn k)) [tx k cs t, tx k [47] u]) Q E s := by
  cases k
  · exact SC.endswith (x := sOf cs) (y := sOf [47]) (by rw [ew_str]; exact h)
  · exact call_gives FB.slot_bytes_endswith (typeIs_bytes _ _ _) FB.entry_bytes_endswith (FB.args_bytes_endswith_2 _ _) (ends_gives (oc cs) (oc [47]) t u) (by rw [ew_oc o]; exact h)
theorem rfind_gives0 (t u : Tok) : Gives («bytes.rfind» ⟨[.bytes (oc []) t, .bytes (oc [47]) u], []⟩) (.int (-1)) := by
  refine .of_wp fun M A E s Q hq => ?_
  show wpAny M A (Bytes.searchM .bytes "rfind" true false ⟨[.bytes (oc []) t, .bytes (oc [47]) u], []⟩) _ E s
  unfold Bytes.searchM
  refine wpAny_bind ?_
  unfold Bytes.searchArgs
  refine wpAny_bind (wpAny_of_eq (a := (Value.bytes (oc []) t, [Value.bytes (oc [47]) u])) rfl ?_)
  refine wpAny_bind (wpAny_of_eq (a := none) rfl ?_)
  refine wpAny_bind (wpAny_of_eq (a := none) rfl ?_)
  refine wpAny_bind (wpAny_of_eq (a := some (oc [47])) KBy.buffer_eq ?_)
  refine wpAny_bind (wpAny_pure ?_)
  refine wpAny_bind (wpAny_of_eq (a := oc []) rfl ?_)
  refine wpAny_pure ?_
  exact wpAny_bind (wpAny_rule (wpAny_bind (wpAny_mkInt (wpAny_pure ⟨_, rfl, hq⟩))))
theorem c_rf (o : Oct cs) (h : ∀ t' s', Keeps s s' → Q (.int (lastIx cs) t') s') : wpAny (model prog w) A (call (.builtin (mRf k)) [tx k cs t, tx k [47] u]) Q E s := by
  cases k
  · exact SC.rfind (x := sOf cs) (y := sOf [47]) (by rw [rf_str]; exact h _ _ (Keeps.tk _ _))
  · cases cs with
    | nil => exact call_gives slot_rfind (typeIs_bytes _ _ _) entry_rfind (args_rfind _ _) (rfind_gives0 t u) (h _ _ (Keeps.tk _ _))
    | cons c r =>
      refine call_gives slot_rfind (typeIs_bytes _ _ _) entry_rfind (args_rfind _ _) (rfind_gives (oc (c :: r)) (oc [47]) t u (by rw [oc_size, oc_size]; simp)) ?_
      have e := rf_oc o
      have hq := h s.toks { s with toks := s.toks + 1 } (Keeps.tk _ _)
      rw [← e] at hq
      exact hq
theorem c_rs (o : Oct cs) (hsz : cs.length ≤ 1048576) (h : ∀ t' s', Keeps s s' → Q (tx k (rs47 cs) t') s') : wpAny (model prog w) A (call (.builtin (mRs k)) [tx k cs t, tx k [47] u]) Q E s := by
  cases k
  · exact SC.rstripChars (x := sOf cs) (y := sOf [47]) (fun t' n => by rw [rs_str]; exact h _ _ (Keeps.tk _ _)) (by rw [sOf_len, sizeLine16]; omega)
  · refine call_gives slot_rstrip (typeIs_bytes _ _ _) entry_rstrip (args_rstrip _ _) (rstrip_gives (oc cs) (oc [47]) t u) ?_
    rw [rs_oc o]
    by_cases he : (((rs47 cs).map UInt8.ofNat).length == (oc cs).size) = true
    · rw [if_pos he]
      have hl : (rs47 cs).length = cs.length := by simpa [oc] using he
      have : rs47 cs = cs := by
        unfold rs47 at hl ⊢
        rw [take_dropWhile_rev] at hl ⊢
        exact List.take_of_length_le (by rw [List.length_take] at hl; omega)
      have hq := h t s (Keeps.refl _)
      rw [this] at hq; exact hq
    · rw [if_neg he]
      exact ⟨by simp only [List.size_toArray, List.length_map, sizeLine16]; have := rs_len_le cs; omega, h _ _ (Keeps.tk _ _)⟩
theorem get_none_size (h : Heap) : h.get? h.objs.size = none := by
  cases e : h.get? h.objs.size with
  | none => rfl
  | some o => exact absurd (Heap.lt_size e) (Nat.lt_irrefl _)
theorem strs_tx : ∀ (l : List (PySem.Str × Tok)), TxL false (l.map fun p => p.1.cps.toList) (strValues l)
  | [] => .nil
  | (x, t) :: r => by
    have ih := strs_tx r
    have : Value.str x t = tx false x.cps.toList t := by show _ = Value.str ⟨x.cps.toList.toArray⟩ t; simp
    show TxL false (x.cps.toList :: _) (Value.str x t :: strValues r)
    rw [this]; exact .cons ih
theorem c_sp (o : Oct cs) (hsz : cs.length ≤ 1048576) (h : ∀ a vs s', Keeps s s' → s.heap.get? a = none → TxL k (sp47 cs) vs → s'.heap.IsList a vs.toArray → Q (.ref a) s') :
    wpAny (model prog w) A (call (.builtin (mSp k)) [tx k cs t, tx k [47] u]) Q E s := by
  cases k
  · have hz : (sOf cs).length ≤ sizeLine := by rw [sOf_len, sizeLine16]; omega
    have fin : ∀ (l : List (PySem.Str × Tok)) (tk : Nat), l.map (·.1) = Txt.split (sOf cs) (sOf [47]) → Q (.ref s.heap.objs.size) { s with toks := tk, heap := s.heap.push { cls := .type "list", data := .seq (strValues l).toArray } } := by
      intro l tk hl
      refine h _ (strValues l) _ (Keeps.mk' fun b o e => Heap.get?_push_of_some _ e) (get_none_size _) ?_ ⟨_, Heap.get?_push_size _ rfl, rfl, _, rfl⟩
      have := sp_str cs
      rw [← hl, List.map_map] at this
      rw [← this]; exact strs_tx l
    have hy : ((sOf [47]).length == 0) = false := rfl
    cases h1 : (decide ((sOf cs).length < (sOf [47]).length) || decide (Str.strKind (sOf cs) < Str.strKind (sOf [47])))
    · cases hf : (Str.occurrences (sOf cs) (sOf [47]) 0 (sOf cs).length ((sOf cs).length + 1)).isEmpty
      · have hs : Txt.split (sOf cs) (sOf [47]) = Str.partsBetween (sOf cs) (Str.occurrences (sOf cs) (sOf [47]) 0 (sOf cs).length ((sOf cs).length + 1)) (sOf [47]).length :=
          (if_neg (ne_true_of_eq_false h1)).trans (if_neg (ne_true_of_eq_false hf))
        have hz2 : (Str.partsBetween (sOf cs) (Str.occurrences (sOf cs) (sOf [47]) 0 (sOf cs).length ((sOf cs).length + 1)) (sOf [47]).length).length ≤ sizeLine := by
          rw [← hs, sizeLine16]
          have := congrArg List.length (sp_str cs)
          rw [List.length_map] at this
          have := sp_len cs
          omega
        refine call_meets F.slot_str_split (typeIs_str _ _ _) F.entry_str_split (F.args_str_split_2 _ _) (meets_str_split_sep (sOf cs) (sOf [47]) t u h1 hy hf hz hz2) ?_
        show wants Q E _ { s with toks := _, heap := s.heap.push { cls := .type "list", data := .seq (strsFrom s.toks (Str.partsBetween (sOf cs) (Str.occurrences (sOf cs) (sOf [47]) 0 (sOf cs).length ((sOf cs).length + 1)) (sOf [47]).length)).toArray } }
        rw [strsFrom_eq]
        exact fin (numbered s.toks _) _ ((numbered_texts _ _).trans hs.symm)
      · exact call_meets F.slot_str_split (typeIs_str _ _ _) F.entry_str_split (F.args_str_split_2 _ _) (meets_str_split_not_found (sOf cs) (sOf [47]) t u h1 hy hf)
          (fin [(sOf cs, t)] s.toks ((if_neg (ne_true_of_eq_false h1)).trans (if_pos hf)).symm)
    · exact call_meets F.slot_str_split (typeIs_str _ _ _) F.entry_str_split (F.args_str_split_2 _ _) (meets_str_split_cannot_occur (sOf cs) (sOf [47]) t u h1)
        (fin [(sOf cs, t)] s.toks (if_pos h1).symm)
  · exact call_meets slot_split (typeIs_bytes _ _ _) entry_split (args_split _ _) (split_meets cs t u o hsz) fun a vs s' hk hn hv hp => h a vs s' hk hn hv hp.isList
theorem strsAre_of {ps : List (List Nat)} {vs : List Value} (h : TxL false ps vs) : StrsAre vs (ps.map sOf) := by
  induction h with
  | nil => exact .nil
  | cons _ ih => exact .cons _ _ ih
theorem txjoin (ps : List (List Nat)) : Txt.join (sOf [47]) (ps.map sOf) = sOf (jn47 ps) := by
  have : Txt.join (sOf [47]) (ps.map sOf) = PySem.Str.join (sOf [47]) (ps.map sOf) := StrLaws.glued_eq_join _ _
  rw [this]
  induction ps with
  | nil => rfl
  | cons x r ih =>
    cases r with
    | nil => rfl
    | cons y r =>
      have e2 : PySem.Str.join (sOf [47]) ((x :: y :: r).map sOf) = (sOf x ++ sOf [47]) ++ PySem.Str.join (sOf [47]) ((y :: r).map sOf) := rfl
      have h2 : Txt.join (sOf [47]) ((y :: r).map sOf) = PySem.Str.join (sOf [47]) ((y :: r).map sOf) := StrLaws.glued_eq_join _ _
      rw [e2, ih h2]
      show (⟨(x.toArray ++ #[47]) ++ (jn47 (y :: r)).toArray⟩ : PySem.Str) = ⟨(x ++ 47 :: jn47 (y :: r)).toArray⟩
      simp
theorem c_jn {a : Addr} {ps : List (List Nat)} {vs : List Value} (hl : s.heap.IsList a vs.toArray) (hv : TxL k ps vs) (hsz : (ps.map List.length).sum + ps.length ≤ 1048576) (h : ∀ t' s', Keeps s s' → Q (tx k (jn47 ps) t') s') :
    wpAny (model prog w) A (call (.builtin (mJn k)) [tx k [47] t, .ref a]) Q E s := by
  cases k
  · refine join_list (x := sOf [47]) hl (ys := ps.map sOf) (by simpa using strsAre_of hv) ?_ (fun t' n => ?_)
    · rw [List.map_map, List.length_map, sOf_len]
      have : (ps.map ((fun x : PySem.Str => x.length) ∘ sOf)) = ps.map List.length := by
        apply List.map_congr_left; intro p _; exact sOf_len p
      rw [this]; simp; omega
    · rw [txjoin]; exact h _ _ (Keeps.tk _ _)
  · exact call_meets slot_join (typeIs_bytes _ _ _) entry_join (args_join _ _) (join_meets ps vs t a hv hsz) ⟨hl, h⟩
theorem c_len (hsz : cs.length ≤ 1048576) (h : ∀ t' s', Keeps s s' → Q (.int (cs.length : Int) t') s') : wpAny (model prog w) A (call (.builtin "len") [tx k cs t]) Q E s := by
  cases k
  · refine P.len_str (x := sOf cs) (by rw [sOf_len]; omega) ?_
    rw [sOf_len]; exact h _ _ (Keeps.tk _ _)
  · refine len_bytes (b := oc cs) (by rw [oc_size]; omega) ?_
    rw [oc_size]; exact h _ _ (Keeps.tk _ _)
theorem foldl_47 (n : Nat) : ∀ acc : List Nat, (List.replicate n (sOf [47]).cps).foldl (· ++ ·) acc.toArray = (acc ++ List.replicate n 47).toArray := by
  induction n with
  | zero => intro acc; simp
  | succ n ih => intro acc; rw [List.replicate_succ, List.foldl_cons]; show List.foldl _ (acc.toArray ++ #[47]) _ = _; have : acc.toArray ++ #[47] = (acc ++ [47]).toArray := by simp
                 rw [this, ih, List.append_assoc]; rfl
theorem c_mul {n : Nat} (hsz : n ≤ 1048576) (h : ∀ t' s', Keeps s s' → Q (tx k (List.replicate n 47) t') s') : wpAny (model prog w) A (binaryOp .Mult (tx k [47] t) (.int (n : Int) u)) Q E s := by
  cases k
  · refine P.mul_str (x := sOf [47]) (by rw [decide_eq_false (by omega), decide_eq_false (by omega)]; rfl) (fun h1 _ => ?_) (fun _ _ => ?_) ?_
    · rw [sOf_len]
      show ¬ ((1 : Int) > (2 ^ 63 - 1) / (n : Int))
      have : (1 : Int) ≤ (2 ^ 63 - 1) / (n : Int) := by
        rw [Int.le_ediv_iff_mul_le (by omega)]; omega
      omega
    · unfold Str.tooLong; rw [sOf_len]; simp [sizeLine16]; omega
    · split
      · rename_i h0
        have : n = 0 := by omega
        subst this
        exact ⟨by decide, h _ _ (Keeps.tk _ _)⟩
      · split
        · rename_i h0 h1
          have : n = 1 := by
            rw [sOf_len] at h1; simp at h1; omega
          subst this
          exact h _ _ (Keeps.refl _)
        · have e : (⟨(List.replicate (n : Int).toNat (sOf [47]).cps).foldl (· ++ ·) #[]⟩ : PySem.Str) = sOf (List.replicate n 47) := by
            have := foldl_47 n []
            simp only [Int.toNat_natCast]
            show (⟨List.foldl _ ([] : List Nat).toArray _⟩ : PySem.Str) = _
            rw [this]; rfl
          rw [e]
          exact ⟨by rw [sOf_len, sizeLine16]; simp; omega, h _ _ (Keeps.tk _ _)⟩
  · refine bytes_mul_any (b := [47]) (by simp) (by omega) (by omega) (by simp) (fun t' n' => ?_)
    have e : ((List.replicate (n : Int).toNat [(47 : UInt8)]).flatten).toArray = oc (List.replicate n 47) := by
      simp only [Int.toNat_natCast]
      apply Array.ext'
      show (List.replicate n [(47 : UInt8)]).flatten = (List.replicate n 47).map UInt8.ofNat
      clear h hsz n'
      induction n with
      | zero => rfl
      | succ n ih => rw [List.replicate_succ, List.flatten_cons, ih, List.replicate_succ]; rfl
    rw [e]; exact h _ _ (Keeps.tk _ _)
end
end Mine
end
section
open PySem PySem.W PyProof.Rows PySem.Calls PySem.Builtin
set_option maxRecDepth 100000
set_option maxHeartbeats 4000000
namespace Mine
open BF

noncomputable def cut {α : Type} (cs : List α) (lo hi : Option Int) : List α := (cs.drop (lo.elim 0 (clipAt cs.length))).take (hi.elim cs.length (clipAt cs.length) - lo.elim 0 (clipAt cs.length))
theorem cut_len {α : Type} (cs : List α) (lo hi : Option Int) : (cut cs lo hi).length ≤ cs.length := by
  unfold cut; rw [List.length_take, List.length_drop]; exact Nat.le_trans (Nat.min_le_right _ _) (Nat.sub_le _ _)
theorem cut_upto {α : Type} (cs : List α) (n : Nat) : cut cs none (some (n : Int)) = cs.take n := by
  unfold cut
  simp only [Option.elim, clipAt_nat, List.drop_zero, Nat.sub_zero]
  by_cases h : n ≤ cs.length
  · rw [Nat.min_eq_left h]
  · rw [Nat.min_eq_right (by omega), List.take_of_length_le (Nat.le_refl _), List.take_of_length_le (by omega)]
theorem cut_from {α : Type} (cs : List α) (n : Nat) : cut cs (some (n : Int)) none = cs.drop n := by
  unfold cut
  simp only [Option.elim, clipAt_nat]
  by_cases h : n ≤ cs.length
  · rw [Nat.min_eq_left h, List.take_of_length_le (by rw [List.length_drop]; omega)]
  · rw [Nat.min_eq_right (by omega), List.drop_of_length_le (Nat.le_refl _), List.drop_of_length_le (by omega)]; simp
theorem cut_both {α : Type} (cs : List α) (a b : Nat) : cut cs (some (a : Int)) (some (b : Int)) = (cs.take b).drop a := by
  unfold cut
  simp only [Option.elim, clipAt_nat]
  rw [List.drop_take]
  by_cases h : a ≤ cs.length
  · rw [Nat.min_eq_left h]
    by_cases h2 : b ≤ cs.length
    · rw [Nat.min_eq_left h2]
    · rw [Nat.min_eq_right (by omega), List.take_of_length_le (by rw [List.length_drop]; omega), List.take_of_length_le (by rw [List.length_drop]; omega)]
  · rw [List.drop_of_length_le (by rw [Nat.min_eq_right (by omega)]; omega), List.drop_of_length_le (by omega)]; simp
theorem oct_cut {cs : List Nat} (o : Oct cs) (lo hi : Option Int) : Oct (cut cs lo hi) := oct_sub o _ _

theorem slice_ix (lo hi : Option Int) (n : Nat) : Str.strSliceIndices lo hi 1 n = (List.range (hi.elim n (clipAt n) - lo.elim 0 (clipAt n))).map ((lo.elim 0 (clipAt n)) + ·) := by
  rw [← sliceRange_one]
  have h := sliceBounds_plain lo hi n
  have e : Str.strSliceIndices lo hi 1 n = sliceRange (sliceBounds lo hi none n).1 (sliceBounds lo hi none n).2.1 1 := rfl
  rw [e, h]
theorem slice_str (cs : List Nat) (lo hi : Option Int) : ((Str.strSliceIndices lo hi 1 cs.length).filterMap (cs.toArray[·]?)).toArray = (cut cs lo hi).toArray := by
  rw [slice_ix, pick_run]; rfl
theorem slice_whole (cs : List Nat) (lo hi : Option Int) (h : (Str.strSliceIndices lo hi 1 cs.length).length = cs.length) : cut cs lo hi = cs := by
  rw [slice_ix, List.length_map, List.length_range] at h
  unfold cut
  have h1 : lo.elim 0 (clipAt cs.length) ≤ cs.length ∨ cs.length < lo.elim 0 (clipAt cs.length) := by omega
  have h2 : hi.elim cs.length (clipAt cs.length) ≤ cs.length := by
    cases hi with
    | none => exact Nat.le_refl _
    | some i => show clipAt _ i ≤ _; unfold clipAt; omega
  cases hc : cs with
  | nil => simp
  | cons c r =>
    rw [hc] at h h2
    have h0 : lo.elim 0 (clipAt (c :: r).length) = 0 := by
      simp only [List.length_cons] at h h2 ⊢; omega
    rw [h0, List.drop_zero, Nat.sub_zero]
    rw [h0] at h
    rw [List.take_of_length_le (by omega)]

section
variable {prog : Program} {w : World} {A : Around} {E : Value → Shared → Prop} {s : Shared} {k : Bool} {cs ds : List Nat} {t u : Tok} {Q : Value → Shared → Prop}

theorem isSlice_of {h : Heap} {a : Addr} {vl vu : Value} {lo hi : Option Int} (hs : h.IsSliceOf a vl vu .none) (pl : IsPart vl lo) (pu : IsPart vu hi) :
    ∃ l u : Option (Int × Tok), h.IsSlice a l u none ∧ l.map (·.1) = lo ∧ u.map (·.1) = hi := by
  cases pl with
  | none => cases pu with
    | none => exact ⟨none, none, hs, rfl, rfl⟩
    | int j tj => exact ⟨none, some (j, tj), hs, rfl, rfl⟩
  | int i ti => cases pu with
    | none => exact ⟨some (i, ti), none, hs, rfl, rfl⟩
    | int j tj => exact ⟨some (i, ti), some (j, tj), hs, rfl, rfl⟩
theorem getItem_tx {a : Addr} {vl vu : Value} {lo hi : Option Int} (hs : s.heap.IsSliceOf a vl vu .none) (pl : IsPart vl lo) (pu : IsPart vu hi) (hsz : cs.length ≤ 1048576)
    (h : ∀ t' s', Keeps s s' → Q (tx k (cut cs lo hi) t') s') : wpAny (model prog w) A (getItem (tx k cs t) (.ref a)) Q E s := by
  cases k
  · obtain ⟨l, u, hsl, rfl, rfl⟩ := isSlice_of hs pl pu
    refine wpAny_getItem_str_slice (x := sOf cs) hsl rfl ?_
    unfold sliceMade slicePicked
    show (if ((1 : Int) == 1 && (Str.strSliceIndices (l.map (·.1)) (u.map (·.1)) 1 (sOf cs).length).length == (sOf cs).length) = true then Made.val (.str (sOf cs) t)
      else Made.str ⟨((Str.strSliceIndices (l.map (·.1)) (u.map (·.1)) 1 (sOf cs).length).filterMap (cs.toArray[·]?)).toArray⟩).post Q s
    rw [sOf_len]
    by_cases hw : ((1 : Int) == 1 && (Str.strSliceIndices (l.map (·.1)) (u.map (·.1)) 1 cs.length).length == cs.length) = true
    · rw [if_pos hw]
      have := slice_whole cs (l.map (·.1)) (u.map (·.1)) (by simpa using hw)
      have hq := h t s (Keeps.refl _)
      rw [this] at hq; exact hq
    · rw [if_neg hw, slice_str]
      exact ⟨by rw [show PySem.Str.length ⟨(cut cs (l.map (·.1)) (u.map (·.1))).toArray⟩ = (cut cs (l.map (·.1)) (u.map (·.1))).length from sOf_len _, sizeLine16]; have := cut_len cs (l.map (·.1)) (u.map (·.1)); omega, h _ _ (Keeps.tk _ _)⟩
  · refine getItem_meets (typeIs_bytes _ _ _) (by decide) FB.slot_bytes_getitem FB.entry_bytes_getitem (FB.args_bytes_getitem_2 _ _) (KBc.meets_slice2 (oc cs) t a pl pu) ⟨hs, ?_, fun t' n => ?_⟩
    · refine Nat.le_trans (KBc.size_picked_le _ _ _) ?_
      rw [oc_size, sizeLine16]; omega
    · have e : KBy.picked (oc cs) lo hi = oc (cut cs lo hi) := by
        rw [KBc.picked_eq, oc_size]
        unfold cut
        apply Array.ext'
        show ((cs.map UInt8.ofNat).drop _).take _ = _
        rw [← List.map_drop, ← List.map_take]
      rw [e]; exact h _ _ (Keeps.tk _ _)
theorem sub_tx {value : Expr} {lx ux : Option Expr} {p : Pos} {a : Addr} {vl vu : Value} {lo hi : Option Int} (hs : s.heap.IsSliceOf a vl vu .none) (pl : IsPart vl lo) (pu : IsPart vu hi) (hsz : cs.length ≤ 1048576)
    (h : ∀ t' s', Keeps s s' → Q (tx k (cut cs lo hi) t') s') : wpAny (model prog w) A (subscriptTail value (.Slice lx ux none p) (tx k cs t) (.ref a)) Q E s := by
  cases k
  · exact tail_any (typeIs_str _ _ _) F.slot_str_getitem.lookup (getItem_tx (k := false) hs pl pu hsz h) rfl
  · exact tail_any (typeIs_bytes _ _ _) FB.slot_bytes_getitem.lookup (getItem_tx (k := true) hs pl pu hsz h) rfl
theorem sub_txE {value : Expr} {lx ux : Option Expr} {p : Pos} {a : Addr} {vl vu : Value} {lo hi : Option Int} (hs : s.heap.IsSliceOf a vl vu .none) (pl : IsPart vl lo) (pu : IsPart vu hi) (hsz : cs.length ≤ 1048576) (e : cut cs lo hi = ds)
    (h : ∀ t' s', Keeps s s' → Q (tx k ds t') s') : wpAny (model prog w) A (subscriptTail value (.Slice lx ux none p) (tx k cs t) (.ref a)) Q E s := sub_tx hs pl pu hsz (by rw [e]; exact h)
theorem sub_ls {value : Expr} {lx ux : Option Expr} {p : Pos} {b a : Addr} {vs : List Value} {vl vu : Value} {lo hi : Option Int} (hl : s.heap.IsList b vs.toArray) (hs : s.heap.IsSliceOf a vl vu .none) (pl : IsPart vl lo) (pu : IsPart vu hi) (hsz : vs.length ≤ 1048576)
    (h : ∀ a' s', Keeps s s' → s.heap.get? a' = none → s'.heap.IsList a' (cut vs lo hi).toArray → Q (.ref a') s') : wpAny (model prog w) A (subscriptTail value (.Slice lx ux none p) (.ref b) (.ref a)) Q E s := by
  refine tail_any hl.typeIs slot_list_getitem.lookup (wpAny_getItem_list_slice hl hs pl pu .none (by simp) ?_ (by rw [sizeLine16, List.size_toArray]; omega)) rfl
  refine h _ _ (Keeps.push _ _) (get_none_size _) ?_
  rw [slicePick_plain]
  refine ⟨_, Heap.get?_push_size _ rfl, rfl, 0, ?_⟩
  simp only [List.size_toArray]; rfl
theorem slicePick_rev (vs : List Value) : slicePick vs.toArray none none (some (-1)) = vs.reverse.toArray := by
  unfold slicePick
  have e : sliceBounds none none (some (-1)) vs.toArray.size = ((vs.length : Int) - 1, -1, -1) := by
    unfold sliceBounds; simp
  rw [e]
  show ((sliceRange ((vs.length : Int) - 1) (-1) (-1)).filterMap (vs.toArray[·]?)).toArray = _
  have hr : sliceRange ((vs.length : Int) - 1) (-1) (-1) = (List.range vs.length).map fun i => vs.length - 1 - i := by
    exact picked_rev vs.length
  rw [hr, List.filterMap_map]
  congr 1
  apply List.ext_getElem?
  intro i
  have key : (List.range vs.length).filterMap ((fun x => vs.toArray[x]?) ∘ fun i => vs.length - 1 - i) = (List.range vs.length).map (fun i => vs.getD (vs.length - 1 - i) .none) := by
    have gen : ∀ l : List Nat, (∀ x ∈ l, x < vs.length) → l.filterMap ((fun x => vs.toArray[x]?) ∘ fun i => vs.length - 1 - i) = l.map (fun i => vs.getD (vs.length - 1 - i) .none) := by
      intro l
      induction l with
      | nil => intro _; rfl
      | cons x r ih =>
        intro hx
        have hlt : vs.length - 1 - x < vs.length := by have := hx x List.mem_cons_self; omega
        rw [List.map_cons, ← ih fun y hy => hx y (List.mem_cons_of_mem _ hy)]
        rw [List.filterMap_cons]
        simp [List.getElem?_eq_getElem hlt]
    exact gen _ fun x hx => by simpa using hx
  rw [key]
  rw [List.getElem?_map]
  by_cases hi : i < vs.length
  · rw [List.getElem?_range hi, List.getElem?_reverse hi]
    have hlt : vs.length - 1 - i < vs.length := by omega
    simp [List.getElem?_eq_getElem hlt]
  · rw [List.getElem?_eq_none (by simpa using hi), List.getElem?_eq_none (by simpa using hi)]; rfl
theorem sub_rev {value st : Expr} {lx ux : Option Expr} {p : Pos} {b a : Addr} {vs : List Value} {tn : Tok} (hl : s.heap.IsList b vs.toArray) (hs : s.heap.IsSliceOf a .none .none (.int (-1) tn)) (hsz : vs.length ≤ 1048576)
    (h : ∀ a' s', Keeps s s' → s.heap.get? a' = none → s'.heap.IsList a' vs.reverse.toArray → Q (.ref a') s') : wpAny (model prog w) A (subscriptTail value (.Slice lx ux (some st) p) (.ref b) (.ref a)) Q E s := by
  refine tail_any hl.typeIs slot_list_getitem.lookup (wpAny_getItem_list_slice hl hs .none .none (.int (-1) tn) (by simp) ?_ (by rw [sizeLine16, List.size_toArray]; omega)) rfl
  refine h _ _ (Keeps.push _ _) (get_none_size _) ?_
  rw [slicePick_rev]
  exact ⟨_, Heap.get?_push_size _ rfl, rfl, _, rfl⟩
theorem sub_li {value slice : Expr} {b : Addr} {vs : List Value} {i : Int} {ti : Tok} {v : Value} (hl : s.heap.IsList b vs.toArray) (h0 : 0 ≤ i) (h1 : i < 1048576) (hv : vs[i.toNat]? = some v) (h : Q v s)
    (hs : subscripted slice false (.ref b) (.int i ti) = operate [.ref b, .int i ti] (getItem (.ref b) (.int i ti))) : wpAny (model prog w) A (subscriptTail value slice (.ref b) (.int i ti)) Q E s :=
  tail_any hl.typeIs slot_list_getitem.lookup (wpAny_getItem_list hl h0 (by omega) (by simpa using hv) h) hs
theorem sub_ti {value slice : Expr} {b : Addr} {vs : List Value} {i : Int} {ti : Tok} {v : Value} (hl : s.heap.IsTuple b vs.toArray) (h0 : 0 ≤ i) (h1 : i < 1048576) (hv : vs[i.toNat]? = some v) (h : Q v s)
    (hs : subscripted slice false (.ref b) (.int i ti) = operate [.ref b, .int i ti] (getItem (.ref b) (.int i ti))) : wpAny (model prog w) A (subscriptTail value slice (.ref b) (.int i ti)) Q E s := by
  have hlt : i.toNat < vs.length := (List.getElem?_eq_some_iff.mp hv).1
  refine item_tupleT (t := b) (l := vs) hl (Int.le_trans (by decide) h0) (Int.lt_trans h1 (by decide)) (j := i.toNat) ?_ hv h hs
  obtain ⟨n, rfl⟩ := Int.eq_ofNat_of_zero_le h0
  unfold seqIndex?
  rw [if_neg (Int.not_lt.mpr h0)]
  rw [Int.toNat_natCast] at hlt ⊢
  simp [hlt]
end
section
variable {M : Model} {A : Around} {E : Value → Shared → Prop} {s : Shared} {env : Env} {Q : Value → Shared → Prop}
theorem e_slice {lower upper step : Option Expr} {p : Pos}
    (h : wpAny M A (evalPart lower env) (fun l s₁ => wpAny M A (evalPart upper env) (fun u s₂ => wpAny M A (evalPart step env) (fun st s₃ => ∀ a s', Keeps s₃ s' → s'.heap.IsSliceOf a l u st → Q (.ref a) s') E s₂) E s₁) E s) :
    wpAny M A (eval (.Slice lower upper step p) env) Q E s :=
  wpAny_Slice (wpAny_mono h (fun _ _ h₁ => wpAny_mono h₁ (fun _ _ h₂ => wpAny_mono h₂ (fun _ _ h₃ => h₃ _ _ (Keeps.push _ _) (Heap.IsSliceOf.new _ _ _ _)) fun _ _ e => e) fun _ _ e => e) fun _ _ e => e)
theorem p_none (h : Q .none s) : wpAny M A (evalPart none env) Q E s := wpAny_pure h
theorem p_some {e : Expr} (h : wpAny M A (eval e env) Q E s) : wpAny M A (evalPart (some e) env) Q E s := h
end
end Mine
end
section
open PySem PySem.W PyProof.Rows PySem.Calls PySem.Builtin
set_option maxRecDepth 100000
set_option maxHeartbeats 4000000
namespace Mine
open BF

abbrev PG : Program := PySem.Challenge.rw_pd0010_01.row.prog

noncomputable def retOf : Flow → Value
  | .ret v => v
  | _ => .none

section
variable {prog : Program} {w : World} {A : Around} {E : Value → Shared → Prop} {s : Shared} {a b : Int} {t u : Tok} {Q : Value → Shared → Prop}
theorem i_add (h : ∀ t' s', Keeps s s' → Q (.int (a + b) t') s') : wpAny (model prog w) A (binaryOp .Add (.int a t) (.int b u)) Q E s := P.add_int (h _ _ (Keeps.tk _ _))
theorem i_iadd (h : ∀ t' s', Keeps s s' → Q (.int (a + b) t') s') : wpAny (model prog w) A (inplaceOp .Add (.int a t) (.int b u)) Q E s := P.iadd_int (h _ _ (Keeps.tk _ _))
theorem i_isub (h : ∀ t' s', Keeps s s' → Q (.int (a - b) t') s') : wpAny (model prog w) A (inplaceOp .Sub (.int a t) (.int b u)) Q E s := P.isub_int (h _ _ (Keeps.tk _ _))
theorem i_mod (hb : b ≠ 0) (h : ∀ t' s', Keeps s s' → Q (.int (a.fmod b) t') s') : wpAny (model prog w) A (binaryOp .Mod (.int a t) (.int b u)) Q E s := mod_int' hb (h _ _ (Keeps.tk _ _))
theorem i_div (hb : 0 < b) (hb1 : b < 1000) (h : ∀ t' s', Keeps s s' → Q (.int (a.fdiv b) t') s') : wpAny (model prog w) A (binaryOp .FloorDiv (.int a t) (.int b u)) Q E s :=
  floordiv_int (by omega) (h _ _ (Keeps.tk _ _)) (.inl (PyProof.noPylong_small (by omega)))
theorem i_or (h : ∀ t' s', Keeps s s' → Q (.int (Builtin.bitOr a b) t') s') : wpAny (model prog w) A (binaryOp .BitOr (.int a t) (.int b u)) Q E s := or_int (h _ _ (Keeps.tk _ _))
theorem i_and (h : ∀ t' s', Keeps s s' → Q (.int (Builtin.bitAnd a b) t') s') : wpAny (model prog w) A (binaryOp .BitAnd (.int a t) (.int b u)) Q E s := and_int (h _ _ (Keeps.tk _ _))
theorem i_pow {n : Int} (hn : 0 ≤ n) (hn2 : n ≤ 1000000) (ha : a.natAbs < 2 ^ 64) (h : ∀ t' s', Keeps s s' → Q (.int (a ^ n.toNat) t') s') : wpAny (model prog w) A (binaryOp .Pow (.int a t) (.int n u)) Q E s := pow_int_small hn hn2 ha (h _ _ (Keeps.tk _ _))
theorem i_chr (h0 : 0 ≤ a) (h1 : a ≤ 1114111) (h : ∀ t' s', Keeps s s' → Q (tx false [a.toNat] t') s') : wpAny (model prog w) A (call (.builtin "chr") [.int a t]) Q E s := chr_of_range h0 h1 (h _ _ (Keeps.tk _ _))
theorem i_ord {c : Nat} (h : ∀ t' s', Keeps s s' → Q (.int (c : Int) t') s') : wpAny (model prog w) A (call (.builtin "ord") [tx false [c] t]) Q E s := P.ord_of_char (h _ _ (Keeps.tk _ _))
end
section
variable {prog : Program} {w : World} {A : Around} {E : Value → Shared → Prop} {s : Shared} {k : Bool} {cs ds : List Nat} {t u : Tok} {Q : Value → Shared → Prop}
theorem noI_bytes_add : typeLookup (.type "bytes") (dunderI "add") = pure none := by rw [typeLookup_type, builtinLookup_eq_fast]; kernel_rfl
theorem iadd_tx (hsz : cs.length + ds.length ≤ 1048576) (h : ∀ t' s', Keeps s s' → Q (tx k (cs ++ ds) t') s') : wpAny (model prog w) A (inplaceOp .Add (tx k cs t) (tx k ds u)) Q E s := by
  cases k
  · refine PyProof.Rows.iadd_str (x := sOf cs) (y := sOf ds) (fun t' tk => ?_) (by rw [sOf_len, sOf_len, sizeLine16]; omega)
    have e : sOf cs ++ sOf ds = sOf (cs ++ ds) := by show (⟨cs.toArray ++ ds.toArray⟩ : PySem.Str) = _; simp
    rw [e]; exact h _ _ (Keeps.tk _ _)
  · refine PyProof.Rows.inplaceOp_concat (typeIs_bytes s (oc cs) t) (typeIs_bytes s (oc ds) u) noI_bytes_add KBy.noFill_bytes_add KBy.seq_bytes_add
      (call_gives FB.slot_bytes_add (typeIs_bytes _ _ _) FB.entry_bytes_add (FB.args_bytes_add_2 _ _) (KBy.gives_bytes_add (KBy.tooLong_not (by rw [oc_size, oc_size]; omega))) ?_)
    by_cases hb : (oc cs).isEmpty = true
    · rw [if_pos hb]
      have e : cs = [] := by simpa [oc] using hb
      have h' := h u s (Keeps.refl _)
      rw [e, List.nil_append] at h'
      exact h'
    · rw [if_neg hb]
      by_cases hc : (oc ds).isEmpty = true
      · rw [if_pos hc]
        have e : ds = [] := by simpa [oc] using hc
        have h' := h t s (Keeps.refl _)
        rw [e, List.append_nil] at h'
        exact h'
      · rw [if_neg hc]
        refine ⟨by rw [Array.size_append, oc_size, oc_size, sizeLine16]; omega, ?_⟩
        have e : oc cs ++ oc ds = oc (cs ++ ds) := by simp [oc]
        rw [e]; exact h _ _ (Keeps.tk _ _)
end
section
variable {M : Model} {A : Around} {E : Value → Shared → Prop} {w : World} {s₀ s : Shared} {L : Addr} {vars : Vars} {env : Env}
theorem l_0 {k : Nat} {pos : Pos} {Q : Value → Shared → Prop} (h : ∀ t s', Keeps s s' → Q (tx false [] t) s') : wpAny M A (eval (.Constant (.str (PySem.Str.ofString "")) k pos) env) Q E s := fun _ _ _ => h _ _ (Keeps.tk s _)
theorem l_sl {k : Nat} {pos : Pos} {Q : Value → Shared → Prop} (h : ∀ t s', Keeps s s' → Q (tx false [47] t) s') : wpAny M A (eval (.Constant (.str (PySem.Str.ofString "/")) k pos) env) Q E s := fun _ _ _ => h _ _ (Keeps.tk s _)
theorem l_2s {k : Nat} {pos : Pos} {Q : Value → Shared → Prop} (h : ∀ t s', Keeps s s' → Q (tx false [47, 47] t) s') : wpAny M A (eval (.Constant (.str (PySem.Str.ofString "//")) k pos) env) Q E s := fun _ _ _ => h _ _ (Keeps.tk s _)
theorem l_d {k : Nat} {pos : Pos} {Q : Value → Shared → Prop} (h : ∀ t s', Keeps s s' → Q (tx false [46] t) s') : wpAny M A (eval (.Constant (.str (PySem.Str.ofString ".")) k pos) env) Q E s := fun _ _ _ => h _ _ (Keeps.tk s _)
theorem l_dd {k : Nat} {pos : Pos} {Q : Value → Shared → Prop} (h : ∀ t s', Keeps s s' → Q (tx false [46, 46] t) s') : wpAny M A (eval (.Constant (.str (PySem.Str.ofString "..")) k pos) env) Q E s := fun _ _ _ => h _ _ (Keeps.tk s _)
theorem l_sdd {k : Nat} {pos : Pos} {Q : Value → Shared → Prop} (h : ∀ t s', Keeps s s' → Q (tx false [47, 46, 46] t) s') : wpAny M A (eval (.Constant (.str (PySem.Str.ofString "/..")) k pos) env) Q E s := fun _ _ _ => h _ _ (Keeps.tk s _)
theorem l_a {k : Nat} {pos : Pos} {Q : Value → Shared → Prop} (h : ∀ t s', Keeps s s' → Q (tx false [97] t) s') : wpAny M A (eval (.Constant (.str (PySem.Str.ofString "a")) k pos) env) Q E s := fun _ _ _ => h _ _ (Keeps.tk s _)
theorem l_hat {k : Nat} {pos : Pos} {Q : Value → Shared → Prop} (h : ∀ t s', Keeps s s' → Q (tx false [94] t) s') : wpAny M A (eval (.Constant (.str (PySem.Str.ofString "^")) k pos) env) Q E s := fun _ _ _ => h _ _ (Keeps.tk s _)
theorem l_ex {k : Nat} {pos : Pos} {Q : Value → Shared → Prop} (h : ∀ t s', Keeps s s' → Q (tx false [33] t) s') : wpAny M A (eval (.Constant (.str (PySem.Str.ofString "!")) k pos) env) Q E s := fun _ _ _ => h _ _ (Keeps.tk s _)
theorem b_0 {k : Nat} {pos : Pos} {Q : Value → Shared → Prop} (h : ∀ t s', Keeps s s' → Q (tx true [] t) s') : wpAny M A (eval (.Constant (.bytes []) k pos) env) Q E s := fun _ _ _ => h _ _ (Keeps.tk s _)
theorem b_sl {k : Nat} {pos : Pos} {Q : Value → Shared → Prop} (h : ∀ t s', Keeps s s' → Q (tx true [47] t) s') : wpAny M A (eval (.Constant (.bytes [47]) k pos) env) Q E s := fun _ _ _ => h _ _ (Keeps.tk s _)
theorem b_d {k : Nat} {pos : Pos} {Q : Value → Shared → Prop} (h : ∀ t s', Keeps s s' → Q (tx true [46] t) s') : wpAny M A (eval (.Constant (.bytes [46]) k pos) env) Q E s := fun _ _ _ => h _ _ (Keeps.tk s _)
theorem b_dd {k : Nat} {pos : Pos} {Q : Value → Shared → Prop} (h : ∀ t s', Keeps s s' → Q (tx true [46, 46] t) s') : wpAny M A (eval (.Constant (.bytes [46, 46]) k pos) env) Q E s := fun _ _ _ => h _ _ (Keeps.tk s _)
theorem n_tup {vs : List Value} {Q : Value → Shared → Prop} (hsz : vs.length ≤ 1048576) (h : ∀ a s', Keeps s s' → s.heap.get? a = none → s'.heap.IsTuple a vs.toArray → Q (.ref a) s') : wpAny M A (newTuple vs) Q E s :=
  wpAny_newTuple (h _ _ (Keeps.push _ _) (get_none_size _) ⟨_, Heap.get?_push_size _ rfl, rfl, _, rfl⟩) (by rw [sizeLine16]; omega)
theorem cf {pos : Pos} {f : Addr} {e : Expr} {rest : List Expr} {Q : Value → Shared → Prop} (S : St w s₀ L vars s) (hf : fnIn (KK w.params) f = true)
    (h : wpAny M A (spliced (backTo pos (starEach (e :: rest) env))) (fun vs s₁ => Up s₀.heap s₁.heap ∧ wpAny M A (call (.ref f) vs) Q E s₁) E s)
    (he : starEach (e :: rest) env = (false, eval e env) :: starEach rest env) :
    wpAny M A (callWith pos (.ref f) [] (backTo pos (starEach (e :: rest) env)) []) Q E s := by
  unfold fnIn at hf
  split at hf
  · rename_i c d fd sl ho
    exact callWith_def (fd := fd) (o := ⟨c, d, .func fd, sl⟩) rfl (wpAny_mono h (fun vs s₁ h₁ => ⟨h₁.1 _ _ (S.base.k _ _ ho), h₁.2⟩) fun _ _ x => x) he
  · cases hf
theorem x_cons {st : Stmt} {rest : List Stmt} {Q : Flow → Shared → Prop}
    (h : wpAny M A (exec st env) (fun f s' => match f with | .next => wpAny M A (execs rest env) Q E s' | f => Q f s') E s) :
    wpAny M A (execs (st :: rest) env) Q E s := wpAny_execs_cons h
/-- the same, with the rest of the walk under a name: it is written once a statement, not once a step -/
theorem x_consG {st : Stmt} {rest : List Stmt} {Q : Flow → Shared → Prop}
    (h : ∀ Q' : Flow → Shared → Prop, (∀ f s', (match f with | .next => wpAny M A (execs rest env) Q E s' | f => Q f s') → Q' f s') → wpAny M A (exec st env) Q' E s) :
    wpAny M A (execs (st :: rest) env) Q E s := x_cons (h _ fun _ _ x => x)
end
section
variable {A : Around} {E : Value → Shared → Prop} {w : World} {s : Shared}
theorem enterF {n : Nat} {name qual : Str} {params : Arguments} {body : List Stmt} {scope : Scope} {dV kV doc pm cdv ct oc : Value} {an od : Option Addr} {osl : Array (Option Value)} {f : Addr} {args : List Value} {binds : List (Str × Value)}
    {Q : Value → Shared → Prop} (R : Room A (n + 1)) (B : Base w s.heap)
    (ho : (KK w.params).lookup f = some ⟨oc, od, .func (fnOf name qual params body scope dV kV doc pm an cdv ct), osl⟩) (hcd : codeIn (KK w.params) cdv qual = true)
    (hbind : bindArgs (fnOf name qual params body scope dV kV doc pm an cdv ct) ⟨args, []⟩ = pure binds) (hloc : ∀ y ∈ binds, scope.names.lookup y.1 = some .local)
    (hcell : ∀ x ∈ scope.names, x.2 ≠ .cell) (hnd : (binds.map (·.1)).Nodup)
    (h : ∀ L s₁, s.heap.get? L = none → St w s L binds s₁ → Room (A.deeper (envOf qual scope L f cdv)) n →
      wpAny (model PG w) (A.deeper (envOf qual scope L f cdv)) (execs body (envOf qual scope L f cdv)) (fun fl s' => Q (retOf fl) s') (fun _ _ => False) s₁)
    (hco : scope.isCoroutine = false) (hgen : scope.isGenerator = false) (hk : scope.kind = .function) :
    wpAny (model PG w) A (call (.ref f) args) Q E s := by
  refine wpAny_call ?_
  refine codeAny_call_def (fd := fnOf name qual params body scope dV kV doc pm an cdv ct) (body := body) (binds := binds) (by have := R.dp; show A.depth < 1000; omega) (B.k _ _ ho) rfl B.nolimit (codeRec_of B.k hcd) rfl
    (BindsTo.of_eq hbind) hcell hloc (fun h₁ hns hk₁ => ?_) hco hgen hk
  refine wpAny_mono (h s.heap.objs.size { s with heap := h₁, toks := s.toks + binds.length } (get_none_size _) ⟨⟨_, _, rfl, hk₁⟩, ⟨_, hns, fun p hp => ?_⟩, B⟩ (R.deeper _)) (fun fl s' q => ?_) fun _ _ x => x.elim
  · clear h hloc hbind hns
    show binds.reverse.lookup p.1 = some p.2
    have key : ∀ (l : List (Str × Value)), (l.map (·.1)).Nodup → p ∈ l → l.lookup p.1 = some p.2 := by
      intro l hl hm
      induction l with
      | nil => cases hm
      | cons q r ih =>
        obtain ⟨y, u⟩ := q
        rw [List.lookup_cons]
        rcases List.mem_cons.mp hm with rfl | hm
        · simp
        · rw [List.map_cons, List.nodup_cons] at hl
          have hne : (p.1 == y) = false := by
            cases e : p.1 == y with
            | false => rfl
            | true => exact absurd (List.mem_map_of_mem (f := (·.1)) hm) (by rw [eq_of_beq e]; exact hl.1)
          rw [hne]; exact ih hl.2 hm
    refine key _ ?_ (List.mem_reverse.mpr hp)
    rw [List.map_reverse]; unfold List.Nodup; rw [List.pairwise_reverse]; exact List.Pairwise.imp (fun h => Ne.symm h) hnd
  · cases fl <;> exact q
end
end Mine
end
section
open PySem PySem.W PyProof.Rows PySem.Calls PySem.Builtin
set_option maxRecDepth 100000
set_option maxHeartbeats 4000000
namespace Mine
open BF
namespace SBC
theorem kind_n : builtinKind "issubclass.nested" = none := by decide +kernel
theorem plain_n : plainId "issubclass.nested" = true := by decide +kernel
theorem args_n (a b c : Value) : argsOk "issubclass.nested" ⟨[a, b, c], []⟩ := by unfold argsOk; kernel_rfl
theorem nss {k : Int} {tk : Tok} : Meets («issubclass.nested» ⟨[.type "str", .type "str", .int k tk], []⟩) (fun _ R s => R (.ok (.ret (.bool true))) s) := by
  refine .of_wp fun prog w A R s h => ?_
  unfold «issubclass.nested»
  dsimp only
  refine wpAny_bind (wpAny_of_eq F.isi_meta_str ?_)
  rw [if_pos (by decide)]
  refine wpAny_bind (wpAny_of_eq (a := true) (by kernel_rfl) ?_)
  exact wpAny_pure ⟨_, rfl, h⟩
theorem nbs {k : Int} {tk : Tok} : Meets («issubclass.nested» ⟨[.type "bytes", .type "str", .int k tk], []⟩) (fun _ R s => R (.ok (.ret (.bool false))) s) := by
  refine .of_wp fun prog w A R s h => ?_
  unfold «issubclass.nested»
  dsimp only
  refine wpAny_bind (wpAny_of_eq F.isi_meta_str ?_)
  rw [if_pos (by decide)]
  refine wpAny_bind (wpAny_of_eq (a := false) (by kernel_rfl) ?_)
  exact wpAny_pure ⟨_, rfl, h⟩
theorem nbb {k : Int} {tk : Tok} : Meets («issubclass.nested» ⟨[.type "bytes", .type "bytes", .int k tk], []⟩) (fun _ R s => R (.ok (.ret (.bool true))) s) := by
  refine .of_wp fun prog w A R s h => ?_
  unfold «issubclass.nested»
  dsimp only
  refine wpAny_bind (wpAny_of_eq F.isi_meta_bytes ?_)
  rw [if_pos (by decide)]
  refine wpAny_bind (wpAny_of_eq (a := true) (by kernel_rfl) ?_)
  exact wpAny_pure ⟨_, rfl, h⟩
end SBC
section
variable {prog : Program} {w : World} {A : Around} {E : Value → Shared → Prop} {s : Shared} {k : Bool}
noncomputable def tyOf (k : Bool) : String := if k then "bytes" else "str"
theorem type_tx {cs : List Nat} {t : Tok} {Q : Value → Shared → Prop} (h : Q (.type (tyOf k)) s) : wpAny (model prog w) A (call (.type "type") [tx k cs t]) Q E s := by
  cases k
  · exact call_type_of (Tx := "str") rfl (by decide) h
  · exact call_type_of (Tx := "bytes") rfl (by decide) h
theorem issub_tup {a : Addr} {Q : Value → Shared → Prop} (ht : s.heap.IsTuple a [.type "str", .type "bytes"].toArray) (h : Q (.bool true) s) :
    wpAny (model prog w) A (call (.builtin "issubclass") [.type (tyOf k), .ref a]) Q E s := by
  refine call_issubclass (S := fun A R s => s.heap.IsTuple a [Value.type "str", Value.type "bytes"].toArray ∧ R (.ok (.ret (.bool true))) s) ?_ ⟨ht, h⟩
  intro prog w A R s hs
  refine issubclass_outer ?_
  obtain ⟨ht, h⟩ := hs
  obtain ⟨o, ho, hc, n, hd⟩ := id ht
  unfold «issubclass.nested»
  dsimp only
  refine wpAny_bind (wpAny_typeOf ht.typeIs ?_)
  rw [if_neg (by decide)]
  refine wpAny_bind ?_
  unfold Builtins.unionMembers
  refine wpAny_bind (wpAny_typeOf ht.typeIs ?_)
  rw [if_neg (by decide)]
  refine wpAny_pure ?_
  refine wpAny_bind (wpAny_isInstance (b := true) ht.typeIs F.isi_sub_tuple ?_)
  rw [if_pos rfl, if_neg (by decide)]
  refine wpAny_bind (wpAny_seqItems ho hd ?_)
  refine wpAny_bind ?_
  rw [← Array.forIn_toList]
  show wpAny _ _ (forIn [Value.type "str", Value.type "bytes"] _ _) _ _ s
  cases k
  · rw [List.forIn_cons]
    refine wpAny_bind (wpAny_bind (call_function_meets SBC.kind_n SBC.plain_n F.entry_issubclass_nested (SBC.args_n _ _ _) SBC.nss ?_))
    refine wpAny_bind (m := truthy (.bool true)) (wpAny_pure ?_)
    exact wpAny_bind (wpAny_pure (wpAny_pure (wpAny_pure (wpAny_pure h))))
  · rw [List.forIn_cons]
    refine wpAny_bind (wpAny_bind (call_function_meets SBC.kind_n SBC.plain_n F.entry_issubclass_nested (SBC.args_n _ _ _) SBC.nbs ?_))
    refine wpAny_bind (m := truthy (.bool false)) (wpAny_pure ?_)
    refine wpAny_pure ?_
    show wpAny _ _ (forIn [Value.type "bytes"] _ _) _ _ s
    rw [List.forIn_cons]
    refine wpAny_bind (wpAny_bind (call_function_meets SBC.kind_n SBC.plain_n F.entry_issubclass_nested (SBC.args_n _ _ _) SBC.nbb ?_))
    refine wpAny_bind (m := truthy (.bool true)) (wpAny_pure ?_)
    exact wpAny_bind (wpAny_pure (wpAny_pure (wpAny_pure (wpAny_pure h))))
end
end Mine
end
section
open PySem PySem.W PyProof.Rows PySem.Calls PySem.Builtin
set_option maxRecDepth 100000
set_option maxHeartbeats 4000000
namespace Mine
open BF
theorem fillNow (w : World) : PySem.Challenge.rw_pd0010_01.Holds → (KK w.params).In {} → True := by
  k_fill
  intros; trivial
section
variable {A : Around} {E : Value → Shared → Prop} {w : World} {s : Shared}

theorem c_get_sep {k : Bool} {cs : List Nat} {t : Tok} {Q : Value → Shared → Prop} (R : Room A 1) (B : Base w s.heap) (h : ∀ t' s', Keeps s s' → Q (tx k [47] t') s') :
    wpAny (model PG w) A (call (.ref 108) [tx k cs t]) Q E s := by
  (refine' enterF (binds := [(Str.ofString "path", tx k cs t)]) (by assumption) (by assumption) ?ho ?hcd ?hb ?hl ?hc ?hnd ?_ ?hco ?hgen ?hk; (case ho => k_is); (case hcd => k_is); (case hb => exact rfl); (case hl => exact locs rfl); (case hc => decide); (case hnd => exact by simp); (case hco => exact rfl); (case hgen => exact rfl); (case hk => exact rfl); intro L s₁ hF S R')
  ((repeat ((with_reducible refine q5 _ _ ?_); clear q5 Q5)); (repeat ((with_reducible refine q5 _ _ ?_); clear q5 Q5)); (with_reducible refine x_consG fun Q5 q5 => ?_); (with_reducible refine wpAny_If ?_); (with_reducible refine isTrue_plain ?_ ?he9); (case he9 => exact rfl); (with_reducible refine Call_ ?_ ?he9); (case he9 => exact rfl); (with_reducible refine' e_blt (St.bs S) ?e9 ?hv9 ?_ ?hn9 ?hb9 ?hg9 ?hk9 ?hx9 ?hd9); (case hb9 => exact rfl); (case hg9 => exact rfl); (case hk9 => exact rfl); (case hx9 => exact rfl); (case hd9 => decide); (case hn9 => decide); (case e9 => k_is); (case hv9 => with_reducible first | exact bb_isinstance | exact bb_bytes | exact bb_str | exact bb_type | exact bb_issubclass | exact bb_len | exact bb_chr | exact bb_ord | exact bb_int | exact bb_range | exact bb_max | exact bb_min); (with_reducible refine callWith_builtin1 ?_ ?he9 ?hp9); (case he9 => exact rfl); (case hp9 => exact rfl); (with_reducible refine args_cons ?_ ?he9); (case he9 => exact rfl); (with_reducible refine' e_loc S ?hv9 ?_ ?hL9 ?hk9 ?hl9 ?hd9); (case hL9 => exact rfl); (case hk9 => exact rfl); (case hl9 => exact rfl); (case hd9 => decide); (case hv9 => exact rfl); (with_reducible refine args_cons ?_ ?he9); (case he9 => exact rfl); (with_reducible refine' e_blt (St.bs S) ?e9 ?hv9 ?_ ?hn9 ?hb9 ?hg9 ?hk9 ?hx9 ?hd9); (case hb9 => exact rfl); (case hg9 => exact rfl); (case hk9 => exact rfl); (case hx9 => exact rfl); (case hd9 => decide); (case hn9 => decide); (case e9 => k_is); (case hv9 => with_reducible first | exact bb_isinstance | exact bb_bytes | exact bb_str | exact bb_type | exact bb_issubclass | exact bb_len | exact bb_chr | exact bb_ord | exact bb_int | exact bb_range | exact bb_max | exact bb_min); (with_reducible refine args_nil ?_); (with_reducible refine isi_tx_bytes ?_);  intro s' k9; replace S := St.to S k9; skip; clear k9; (with_reducible refine wpAny_truthy_bool ?_); (repeat ((with_reducible refine q5 _ _ ?_); clear q5 Q5)))
  cases k
  · ((repeat ((with_reducible refine q5 _ _ ?_); clear q5 Q5)); (with_reducible refine ite_f ?_); (repeat ((with_reducible refine q5 _ _ ?_); clear q5 Q5)); (with_reducible refine x_consG fun Q5 q5 => ?_); (with_reducible refine wpAny_Return_some ?_); (with_reducible refine l_sl ?_);  intro t s' k9; replace S := St.to S k9; skip; clear k9; (repeat ((with_reducible refine q5 _ _ ?_); clear q5 Q5)))
    (repeat ((with_reducible refine q5 _ _ ?_); clear q5 Q5)); exact h _ _ (St.ext S)
  · ((repeat ((with_reducible refine q5 _ _ ?_); clear q5 Q5)); (with_reducible refine ite_t ?_); (repeat ((with_reducible refine q5 _ _ ?_); clear q5 Q5)); (with_reducible refine x_consG fun Q5 q5 => ?_); (with_reducible refine wpAny_Return_some ?_); (with_reducible refine b_sl ?_);  intro t s' k9; replace S := St.to S k9; skip; clear k9; (repeat ((with_reducible refine q5 _ _ ?_); clear q5 Q5)))
    (repeat ((with_reducible refine q5 _ _ ?_); clear q5 Q5)); exact h _ _ (St.ext S)

theorem c_fspath {k : Bool} {cs : List Nat} {t : Tok} {Q : Value → Shared → Prop} (R : Room A 1) (B : Base w s.heap) (h : ∀ s', Keeps s s' → Q (tx k cs t) s') :
    wpAny (model PG w) A (call (.ref 94) [tx k cs t]) Q E s := by
  (refine' enterF (binds := [(Str.ofString "path", tx k cs t)]) (by assumption) (by assumption) ?ho ?hcd ?hb ?hl ?hc ?hnd ?_ ?hco ?hgen ?hk; (case ho => k_is); (case hcd => k_is); (case hb => exact rfl); (case hl => exact locs rfl); (case hc => decide); (case hnd => exact by simp); (case hco => exact rfl); (case hgen => exact rfl); (case hk => exact rfl); intro L s₁ hF S R')
  ((repeat ((with_reducible refine q5 _ _ ?_); clear q5 Q5)); (repeat ((with_reducible refine q5 _ _ ?_); clear q5 Q5)); (with_reducible refine x_consG fun Q5 q5 => ?_); (with_reducible refine wpAny_Assign_Name ?_ ?hs9); (case hs9 => exact rfl); (with_reducible refine Call_ ?_ ?he9); (case he9 => exact rfl); (with_reducible refine' e_blt (St.bs S) ?e9 ?hv9 ?_ ?hn9 ?hb9 ?hg9 ?hk9 ?hx9 ?hd9); (case hb9 => exact rfl); (case hg9 => exact rfl); (case hk9 => exact rfl); (case hx9 => exact rfl); (case hd9 => decide); (case hn9 => decide); (case e9 => k_is); (case hv9 => with_reducible first | exact bb_isinstance | exact bb_bytes | exact bb_str | exact bb_type | exact bb_issubclass | exact bb_len | exact bb_chr | exact bb_ord | exact bb_int | exact bb_range | exact bb_max | exact bb_min); (with_reducible refine PyProof.Rows.callWith_type1 ?_ ?he9 ?hp9); (case he9 => exact rfl); (case hp9 => exact rfl); (with_reducible refine args_cons ?_ ?he9); (case he9 => exact rfl); (with_reducible refine' e_loc S ?hv9 ?_ ?hL9 ?hk9 ?hl9 ?hd9); (case hL9 => exact rfl); (case hk9 => exact rfl); (case hl9 => exact rfl); (case hd9 => decide); (case hv9 => exact rfl); (with_reducible refine args_nil ?_; refine type_tx ?_); (with_reducible refine st_loc S hF ?_ ?hL9 ?hl9 ?hp9); (case hL9 => exact rfl); (case hl9 => exact rfl); (case hp9 => exact rfl); clear S; intro s' S d9 kk9; skip; clear d9 kk9; (repeat ((with_reducible refine q5 _ _ ?_); clear q5 Q5)); (with_reducible refine x_consG fun Q5 q5 => ?_); (with_reducible refine wpAny_If ?_); (with_reducible refine isTrue_plain ?_ ?he9); (case he9 => exact rfl); (with_reducible refine Call_ ?_ ?he9); (case he9 => exact rfl); (with_reducible refine' e_blt (St.bs S) ?e9 ?hv9 ?_ ?hn9 ?hb9 ?hg9 ?hk9 ?hx9 ?hd9); (case hb9 => exact rfl); (case hg9 => exact rfl); (case hk9 => exact rfl); (case hx9 => exact rfl); (case hd9 => decide); (case hn9 => decide); (case e9 => k_is); (case hv9 => with_reducible first | exact bb_isinstance | exact bb_bytes | exact bb_str | exact bb_type | exact bb_issubclass | exact bb_len | exact bb_chr | exact bb_ord | exact bb_int | exact bb_range | exact bb_max | exact bb_min); (with_reducible refine callWith_builtin1 ?_ ?he9 ?hp9); (case he9 => exact rfl); (case hp9 => exact rfl); (with_reducible refine args_cons ?_ ?he9); (case he9 => exact rfl); (with_reducible refine' e_loc S ?hv9 ?_ ?hL9 ?hk9 ?hl9 ?hd9); (case hL9 => exact rfl); (case hk9 => exact rfl); (case hl9 => exact rfl); (case hd9 => decide); (case hv9 => exact rfl); (with_reducible refine args_cons ?_ ?he9); (case he9 => exact rfl); (with_reducible refine Tuple_ ?_); (with_reducible refine args_cons ?_ ?he9); (case he9 => exact rfl); (with_reducible refine' e_blt (St.bs S) ?e9 ?hv9 ?_ ?hn9 ?hb9 ?hg9 ?hk9 ?hx9 ?hd9); (case hb9 => exact rfl); (case hg9 => exact rfl); (case hk9 => exact rfl); (case hx9 => exact rfl); (case hd9 => decide); (case hn9 => decide); (case e9 => k_is); (case hv9 => with_reducible first | exact bb_isinstance | exact bb_bytes | exact bb_str | exact bb_type | exact bb_issubclass | exact bb_len | exact bb_chr | exact bb_ord | exact bb_int | exact bb_range | exact bb_max | exact bb_min); (with_reducible refine args_cons ?_ ?he9); (case he9 => exact rfl); (with_reducible refine' e_blt (St.bs S) ?e9 ?hv9 ?_ ?hn9 ?hb9 ?hg9 ?hk9 ?hx9 ?hd9); (case hb9 => exact rfl); (case hg9 => exact rfl); (case hk9 => exact rfl); (case hx9 => exact rfl); (case hd9 => decide); (case hn9 => decide); (case e9 => k_is); (case hv9 => with_reducible first | exact bb_isinstance | exact bb_bytes | exact bb_str | exact bb_type | exact bb_issubclass | exact bb_len | exact bb_chr | exact bb_ord | exact bb_int | exact bb_range | exact bb_max | exact bb_min); (with_reducible refine args_nil ?_); (repeat ((with_reducible refine q5 _ _ ?_); clear q5 Q5)))
  refine n_tup (by first | exact Nat.le_of_ble_eq_true rfl | simp) fun a s' k9 hn ht => ?_
  replace S := St.to S k9; clear k9
  ((repeat ((with_reducible refine q5 _ _ ?_); clear q5 Q5)); (with_reducible refine args_nil ?_); (repeat ((with_reducible refine q5 _ _ ?_); clear q5 Q5)))
  refine issub_tup ht ?_
  ((repeat ((with_reducible refine q5 _ _ ?_); clear q5 Q5)); (with_reducible refine wpAny_truthy_bool ?_; refine ite_t ?_); (repeat ((with_reducible refine q5 _ _ ?_); clear q5 Q5)); (with_reducible refine x_consG fun Q5 q5 => ?_); (with_reducible refine wpAny_Return_some ?_); (with_reducible refine' e_loc S ?hv9 ?_ ?hL9 ?hk9 ?hl9 ?hd9); (case hL9 => exact rfl); (case hk9 => exact rfl); (case hl9 => exact rfl); (case hd9 => decide); (case hv9 => exact rfl); (repeat ((with_reducible refine q5 _ _ ?_); clear q5 Q5)))
  (repeat ((with_reducible refine q5 _ _ ?_); clear q5 Q5)); exact h _ (St.ext S)

/-- a sign as iteration gives it: k false a text of one sign, k true its number -/
noncomputable def sgn (k : Bool) (x : Nat) (t : Tok) : Value := if k then .int (x : Int) t else tx false [x] t
theorem isi_sgn {prog : Program} {k : Bool} {x : Nat} {t : Tok} {Q : Value → Shared → Prop} (h : ∀ s', Keeps s s' → Q (.bool (!k)) s') : wpAny (model prog w) A (call (.builtin "isinstance") [sgn k x t, .type "str"]) Q E s := by
  cases k
  · exact isi_str_str (h _ (Keeps.refl _))
  · exact isi_int_str h
theorem bor_fact : ∀ x : Nat, 32 ≤ x → x ≤ 126 → Builtin.bitOr (x : Int) 128 = ((x + 128 : Nat) : Int) := by
  have : ∀ n : Fin 95, Builtin.bitOr ((n.val + 32 : Nat) : Int) 128 = ((n.val + 32 + 128 : Nat) : Int) := by decide +kernel
  intro x h1 h2
  have := this ⟨x - 32, by omega⟩
  simpa [show x - 32 + 32 = x by omega] using this
theorem band_fact1 : ∀ x : Nat, 32 ≤ x → x ≤ 126 → Builtin.bitAnd (x : Int) 127 = (x : Int) ∧ Builtin.bitAnd (x : Int) 128 = 0 := by
  have : ∀ n : Fin 95, Builtin.bitAnd ((n.val + 32 : Nat) : Int) 127 = ((n.val + 32 : Nat) : Int) ∧ Builtin.bitAnd ((n.val + 32 : Nat) : Int) 128 = 0 := by decide +kernel
  intro x h1 h2
  have := this ⟨x - 32, by omega⟩
  simpa [show x - 32 + 32 = x by omega] using this
theorem band_fact2 : ∀ x : Nat, 32 ≤ x → x ≤ 126 → Builtin.bitAnd ((x + 128 : Nat) : Int) 127 = (x : Int) ∧ Builtin.bitAnd ((x + 128 : Nat) : Int) 128 = 128 := by
  have : ∀ n : Fin 95, Builtin.bitAnd ((n.val + 32 + 128 : Nat) : Int) 127 = ((n.val + 32 : Nat) : Int) ∧ Builtin.bitAnd ((n.val + 32 + 128 : Nat) : Int) 128 = 128 := by decide +kernel
  intro x h1 h2
  have := this ⟨x - 32, by omega⟩
  simpa [show x - 32 + 32 = x by omega] using this

theorem c_ctoi {k : Bool} {x : Nat} {t : Tok} {Q : Value → Shared → Prop} (R : Room A 1) (B : Base w s.heap) (h : ∀ t' s', Keeps s s' → Q (.int (x : Int) t') s') :
    wpAny (model PG w) A (call (.ref 143) [sgn k x t]) Q E s := by
  (refine' enterF (binds := [(Str.ofString "c", sgn k x t)]) (by assumption) (by assumption) ?ho ?hcd ?hb ?hl ?hc ?hnd ?_ ?hco ?hgen ?hk; (case ho => k_is); (case hcd => k_is); (case hb => exact rfl); (case hl => exact locs rfl); (case hc => decide); (case hnd => exact by simp); (case hco => exact rfl); (case hgen => exact rfl); (case hk => exact rfl); intro L s₁ hF S R')
  ((repeat ((with_reducible refine q5 _ _ ?_); clear q5 Q5)); (repeat ((with_reducible refine q5 _ _ ?_); clear q5 Q5)); (with_reducible refine x_consG fun Q5 q5 => ?_); (with_reducible refine wpAny_If ?_); (with_reducible refine isTrue_plain ?_ ?he9); (case he9 => exact rfl); (with_reducible refine Call_ ?_ ?he9); (case he9 => exact rfl); (with_reducible refine' e_blt (St.bs S) ?e9 ?hv9 ?_ ?hn9 ?hb9 ?hg9 ?hk9 ?hx9 ?hd9); (case hb9 => exact rfl); (case hg9 => exact rfl); (case hk9 => exact rfl); (case hx9 => exact rfl); (case hd9 => decide); (case hn9 => decide); (case e9 => k_is); (case hv9 => with_reducible first | exact bb_isinstance | exact bb_bytes | exact bb_str | exact bb_type | exact bb_issubclass | exact bb_len | exact bb_chr | exact bb_ord | exact bb_int | exact bb_range | exact bb_max | exact bb_min); (with_reducible refine callWith_builtin1 ?_ ?he9 ?hp9); (case he9 => exact rfl); (case hp9 => exact rfl); (with_reducible refine args_cons ?_ ?he9); (case he9 => exact rfl); (with_reducible refine' e_loc S ?hv9 ?_ ?hL9 ?hk9 ?hl9 ?hd9); (case hL9 => exact rfl); (case hk9 => exact rfl); (case hl9 => exact rfl); (case hd9 => decide); (case hv9 => exact rfl); (with_reducible refine args_cons ?_ ?he9); (case he9 => exact rfl); (with_reducible refine' e_blt (St.bs S) ?e9 ?hv9 ?_ ?hn9 ?hb9 ?hg9 ?hk9 ?hx9 ?hd9); (case hb9 => exact rfl); (case hg9 => exact rfl); (case hk9 => exact rfl); (case hx9 => exact rfl); (case hd9 => decide); (case hn9 => decide); (case e9 => k_is); (case hv9 => with_reducible first | exact bb_isinstance | exact bb_bytes | exact bb_str | exact bb_type | exact bb_issubclass | exact bb_len | exact bb_chr | exact bb_ord | exact bb_int | exact bb_range | exact bb_max | exact bb_min); (with_reducible refine args_nil ?_); (repeat ((with_reducible refine q5 _ _ ?_); clear q5 Q5)))
  refine isi_sgn fun s' k9 => ?_
  replace S := St.to S k9; clear k9
  ((repeat ((with_reducible refine q5 _ _ ?_); clear q5 Q5)); (with_reducible refine wpAny_truthy_bool ?_); (repeat ((with_reducible refine q5 _ _ ?_); clear q5 Q5)))
  cases k
  · ((repeat ((with_reducible refine q5 _ _ ?_); clear q5 Q5)); (with_reducible refine ite_nt ?_); (repeat ((with_reducible refine q5 _ _ ?_); clear q5 Q5)); (with_reducible refine x_consG fun Q5 q5 => ?_); (with_reducible refine wpAny_Return_some ?_); (with_reducible refine Call_ ?_ ?he9); (case he9 => exact rfl); (with_reducible refine' e_blt (St.bs S) ?e9 ?hv9 ?_ ?hn9 ?hb9 ?hg9 ?hk9 ?hx9 ?hd9); (case hb9 => exact rfl); (case hg9 => exact rfl); (case hk9 => exact rfl); (case hx9 => exact rfl); (case hd9 => decide); (case hn9 => decide); (case e9 => k_is); (case hv9 => with_reducible first | exact bb_isinstance | exact bb_bytes | exact bb_str | exact bb_type | exact bb_issubclass | exact bb_len | exact bb_chr | exact bb_ord | exact bb_int | exact bb_range | exact bb_max | exact bb_min); (with_reducible refine callWith_builtin1 ?_ ?he9 ?hp9); (case he9 => exact rfl); (case hp9 => exact rfl); (with_reducible refine args_cons ?_ ?he9); (case he9 => exact rfl); (with_reducible refine' e_loc S ?hv9 ?_ ?hL9 ?hk9 ?hl9 ?hd9); (case hL9 => exact rfl); (case hk9 => exact rfl); (case hl9 => exact rfl); (case hd9 => decide); (case hv9 => exact rfl); (with_reducible refine args_nil ?_); (repeat ((with_reducible refine q5 _ _ ?_); clear q5 Q5)))
    refine i_ord fun t' s' k9 => ?_
    replace S := St.to S k9; clear k9
    (repeat ((with_reducible refine q5 _ _ ?_); clear q5 Q5)); exact h _ _ (St.ext S)
  · ((repeat ((with_reducible refine q5 _ _ ?_); clear q5 Q5)); (with_reducible refine ite_nf ?_); (repeat ((with_reducible refine q5 _ _ ?_); clear q5 Q5)); (with_reducible refine x_consG fun Q5 q5 => ?_); (with_reducible refine wpAny_Return_some ?_); (with_reducible refine' e_loc S ?hv9 ?_ ?hL9 ?hk9 ?hl9 ?hd9); (case hL9 => exact rfl); (case hk9 => exact rfl); (case hl9 => exact rfl); (case hd9 => decide); (case hv9 => exact rfl); (repeat ((with_reducible refine q5 _ _ ?_); clear q5 Q5)))
    (repeat ((with_reducible refine q5 _ _ ?_); clear q5 Q5)); exact h _ _ (St.ext S)
theorem c_ismeta {k : Bool} {x : Nat} {t : Tok} {Q : Value → Shared → Prop} (R : Room A 2) (B : Base w s.heap) (h : ∀ s', Keeps s s' → Q (.bool (decide (x > 127))) s') :
    wpAny (model PG w) A (call (.ref 157) [sgn k x t]) Q E s := by
  (refine' enterF (binds := [(Str.ofString "c", sgn k x t)]) (by assumption) (by assumption) ?ho ?hcd ?hb ?hl ?hc ?hnd ?_ ?hco ?hgen ?hk; (case ho => k_is); (case hcd => k_is); (case hb => exact rfl); (case hl => exact locs rfl); (case hc => decide); (case hnd => exact by simp); (case hco => exact rfl); (case hgen => exact rfl); (case hk => exact rfl); intro L s₁ hF S R')
  ((repeat ((with_reducible refine q5 _ _ ?_); clear q5 Q5)); (repeat ((with_reducible refine q5 _ _ ?_); clear q5 Q5)); (with_reducible refine x_consG fun Q5 q5 => ?_); (with_reducible refine wpAny_Return_some ?_); (with_reducible refine wpAny_Compare1 ?_ ?hm9); (case hm9 => exact rfl); (with_reducible refine Call_ ?_ ?he9); (case he9 => exact rfl); (with_reducible refine' e_glob (St.bs S) ?e9 ?_ ?hg9 ?hk9 ?hx9 ?hd9); (case hg9 => exact rfl); (case hk9 => exact rfl); (case hx9 => exact rfl); (case hd9 => decide); (case e9 => k_is); (with_reducible refine cf S ?hf9 ?_ ?he9); (case he9 => exact rfl); (case hf9 => k_is); (with_reducible refine args_cons ?_ ?he9); (case he9 => exact rfl); (with_reducible refine' e_loc S ?hv9 ?_ ?hL9 ?hk9 ?hl9 ?hd9); (case hL9 => exact rfl); (case hk9 => exact rfl); (case hl9 => exact rfl); (case hd9 => decide); (case hv9 => exact rfl); (with_reducible refine args_nil ?_); (with_reducible refine And.intro (Keeps.up (St.ext S)) ?_); (repeat ((with_reducible refine q5 _ _ ?_); clear q5 Q5)))
  (refine c_ctoi R' (St.bs S) fun t' s' k9 => ?_); replace S := St.to S k9; skip; clear k9
  ((repeat ((with_reducible refine q5 _ _ ?_); clear q5 Q5)); (with_reducible refine e_int ?_);  intro t s' k9; replace S := St.to S k9; skip; clear k9; (with_reducible refine P.gt_int ?_); (repeat ((with_reducible refine q5 _ _ ?_); clear q5 Q5)))
  have e : (decide ((x : Int) > 127)) = decide (x > 127) := by
    by_cases h : x > 127
    · rw [decide_eq_true h, decide_eq_true (by omega)]
    · rw [decide_eq_false h, decide_eq_false (by omega)]
  have := h s' (St.ext S)
  rw [← e] at this
  exact this
theorem c_isprint {x : Nat} {t : Tok} {Q : Value → Shared → Prop} (R : Room A 2) (B : Base w s.heap) (hx : 32 ≤ x) (hx2 : x ≤ 126) (h : ∀ s', Keeps s s' → Q (.bool true) s') :
    wpAny (model PG w) A (call (.ref 150) [.int (x : Int) t]) Q E s := by
  (refine' enterF (binds := [(Str.ofString "c", .int (x : Int) t)]) (by assumption) (by assumption) ?ho ?hcd ?hb ?hl ?hc ?hnd ?_ ?hco ?hgen ?hk; (case ho => k_is); (case hcd => k_is); (case hb => exact rfl); (case hl => exact locs rfl); (case hc => decide); (case hnd => exact by simp); (case hco => exact rfl); (case hgen => exact rfl); (case hk => exact rfl); intro L s₁ hF S R')
  ((repeat ((with_reducible refine q5 _ _ ?_); clear q5 Q5)); (repeat ((with_reducible refine q5 _ _ ?_); clear q5 Q5)); (with_reducible refine x_consG fun Q5 q5 => ?_); (with_reducible refine wpAny_Return_some ?_); (with_reducible refine Compare_chain ?_ ?hm9); (case hm9 => exact rfl); (with_reducible refine e_int ?_);  intro t s' k9; replace S := St.to S k9; skip; clear k9; (with_reducible refine chain_link ?_); (with_reducible refine Call_ ?_ ?he9); (case he9 => exact rfl); (with_reducible refine' e_glob (St.bs S) ?e9 ?_ ?hg9 ?hk9 ?hx9 ?hd9); (case hg9 => exact rfl); (case hk9 => exact rfl); (case hx9 => exact rfl); (case hd9 => decide); (case e9 => k_is); (with_reducible refine cf S ?hf9 ?_ ?he9); (case he9 => exact rfl); (case hf9 => k_is); (with_reducible refine args_cons ?_ ?he9); (case he9 => exact rfl); (with_reducible refine' e_loc S ?hv9 ?_ ?hL9 ?hk9 ?hl9 ?hd9); (case hL9 => exact rfl); (case hk9 => exact rfl); (case hl9 => exact rfl); (case hd9 => decide); (case hv9 => exact rfl); (with_reducible refine args_nil ?_); (with_reducible refine And.intro (Keeps.up (St.ext S)) ?_); (repeat ((with_reducible refine q5 _ _ ?_); clear q5 Q5)))
  (refine c_ctoi (k := true) R' (St.bs S) fun t' s' k9 => ?_); replace S := St.to S k9; skip; clear k9
  ((repeat ((with_reducible refine q5 _ _ ?_); clear q5 Q5)); (with_reducible refine P.le_int ?_; refine wpAny_truthy_bool ?_); (repeat ((with_reducible refine q5 _ _ ?_); clear q5 Q5)))
  rw [decide_eq_true (by omega)]
  ((repeat ((with_reducible refine q5 _ _ ?_); clear q5 Q5)); (with_reducible refine ite_t ?_); (repeat ((with_reducible refine q5 _ _ ?_); clear q5 Q5)))
  refine chain_last ?_
  ((repeat ((with_reducible refine q5 _ _ ?_); clear q5 Q5)); (with_reducible refine e_int ?_);  intro t s' k9; replace S := St.to S k9; skip; clear k9; (with_reducible refine P.le_int ?_); (repeat ((with_reducible refine q5 _ _ ?_); clear q5 Q5)))
  rw [decide_eq_true (by omega)]
  (repeat ((with_reducible refine q5 _ _ ?_); clear q5 Q5)); exact h _ (St.ext S)
theorem c_alt {k : Bool} {x : Nat} {t : Tok} {Q : Value → Shared → Prop} (R : Room A 2) (B : Base w s.heap) (hx : 32 ≤ x) (hx2 : x ≤ 126) (h : ∀ t' s', Keeps s s' → Q (sgn k (x + 128) t') s') :
    wpAny (model PG w) A (call (.ref 164) [sgn k x t]) Q E s := by
  (refine' enterF (binds := [(Str.ofString "c", sgn k x t)]) (by assumption) (by assumption) ?ho ?hcd ?hb ?hl ?hc ?hnd ?_ ?hco ?hgen ?hk; (case ho => k_is); (case hcd => k_is); (case hb => exact rfl); (case hl => exact locs rfl); (case hc => decide); (case hnd => exact by simp); (case hco => exact rfl); (case hgen => exact rfl); (case hk => exact rfl); intro L s₁ hF S R')
  ((repeat ((with_reducible refine q5 _ _ ?_); clear q5 Q5)); (repeat ((with_reducible refine q5 _ _ ?_); clear q5 Q5)); (with_reducible refine x_consG fun Q5 q5 => ?_); (with_reducible refine wpAny_If ?_); (with_reducible refine isTrue_plain ?_ ?he9); (case he9 => exact rfl); (with_reducible refine Call_ ?_ ?he9); (case he9 => exact rfl); (with_reducible refine' e_blt (St.bs S) ?e9 ?hv9 ?_ ?hn9 ?hb9 ?hg9 ?hk9 ?hx9 ?hd9); (case hb9 => exact rfl); (case hg9 => exact rfl); (case hk9 => exact rfl); (case hx9 => exact rfl); (case hd9 => decide); (case hn9 => decide); (case e9 => k_is); (case hv9 => with_reducible first | exact bb_isinstance | exact bb_bytes | exact bb_str | exact bb_type | exact bb_issubclass | exact bb_len | exact bb_chr | exact bb_ord | exact bb_int | exact bb_range | exact bb_max | exact bb_min); (with_reducible refine callWith_builtin1 ?_ ?he9 ?hp9); (case he9 => exact rfl); (case hp9 => exact rfl); (with_reducible refine args_cons ?_ ?he9); (case he9 => exact rfl); (with_reducible refine' e_loc S ?hv9 ?_ ?hL9 ?hk9 ?hl9 ?hd9); (case hL9 => exact rfl); (case hk9 => exact rfl); (case hl9 => exact rfl); (case hd9 => decide); (case hv9 => exact rfl); (with_reducible refine args_cons ?_ ?he9); (case he9 => exact rfl); (with_reducible refine' e_blt (St.bs S) ?e9 ?hv9 ?_ ?hn9 ?hb9 ?hg9 ?hk9 ?hx9 ?hd9); (case hb9 => exact rfl); (case hg9 => exact rfl); (case hk9 => exact rfl); (case hx9 => exact rfl); (case hd9 => decide); (case hn9 => decide); (case e9 => k_is); (case hv9 => with_reducible first | exact bb_isinstance | exact bb_bytes | exact bb_str | exact bb_type | exact bb_issubclass | exact bb_len | exact bb_chr | exact bb_ord | exact bb_int | exact bb_range | exact bb_max | exact bb_min); (with_reducible refine args_nil ?_); (repeat ((with_reducible refine q5 _ _ ?_); clear q5 Q5)))
  refine isi_sgn fun s' k9 => ?_
  replace S := St.to S k9; clear k9
  ((repeat ((with_reducible refine q5 _ _ ?_); clear q5 Q5)); (with_reducible refine wpAny_truthy_bool ?_); (repeat ((with_reducible refine q5 _ _ ?_); clear q5 Q5)))
  have e := bor_fact x hx hx2
  cases k
  · ((repeat ((with_reducible refine q5 _ _ ?_); clear q5 Q5)); (with_reducible refine ite_nt ?_); (repeat ((with_reducible refine q5 _ _ ?_); clear q5 Q5)); (with_reducible refine x_consG fun Q5 q5 => ?_); (with_reducible refine wpAny_Return_some ?_); (with_reducible refine Call_ ?_ ?he9); (case he9 => exact rfl); (with_reducible refine' e_blt (St.bs S) ?e9 ?hv9 ?_ ?hn9 ?hb9 ?hg9 ?hk9 ?hx9 ?hd9); (case hb9 => exact rfl); (case hg9 => exact rfl); (case hk9 => exact rfl); (case hx9 => exact rfl); (case hd9 => decide); (case hn9 => decide); (case e9 => k_is); (case hv9 => with_reducible first | exact bb_isinstance | exact bb_bytes | exact bb_str | exact bb_type | exact bb_issubclass | exact bb_len | exact bb_chr | exact bb_ord | exact bb_int | exact bb_range | exact bb_max | exact bb_min); (with_reducible refine callWith_builtin1 ?_ ?he9 ?hp9); (case he9 => exact rfl); (case hp9 => exact rfl); (with_reducible refine args_cons ?_ ?he9); (case he9 => exact rfl); (with_reducible refine wpAny_BinOp ?_); (with_reducible refine Call_ ?_ ?he9); (case he9 => exact rfl); (with_reducible refine' e_glob (St.bs S) ?e9 ?_ ?hg9 ?hk9 ?hx9 ?hd9); (case hg9 => exact rfl); (case hk9 => exact rfl); (case hx9 => exact rfl); (case hd9 => decide); (case e9 => k_is); (with_reducible refine cf S ?hf9 ?_ ?he9); (case he9 => exact rfl); (case hf9 => k_is); (with_reducible refine args_cons ?_ ?he9); (case he9 => exact rfl); (with_reducible refine' e_loc S ?hv9 ?_ ?hL9 ?hk9 ?hl9 ?hd9); (case hL9 => exact rfl); (case hk9 => exact rfl); (case hl9 => exact rfl); (case hd9 => decide); (case hv9 => exact rfl); (with_reducible refine args_nil ?_); (with_reducible refine And.intro (Keeps.up (St.ext S)) ?_); (repeat ((with_reducible refine q5 _ _ ?_); clear q5 Q5)))
    (refine c_ctoi (k := false) R' (St.bs S) fun t' s' k9 => ?_); replace S := St.to S k9; skip; clear k9
    ((repeat ((with_reducible refine q5 _ _ ?_); clear q5 Q5)); (with_reducible refine e_int ?_);  intro t s' k9; replace S := St.to S k9; skip; clear k9; (with_reducible refine i_or ?_);  intro t s' k9; replace S := St.to S k9; skip; clear k9; (with_reducible refine args_nil ?_); (repeat ((with_reducible refine q5 _ _ ?_); clear q5 Q5)))
    rw [e]
    refine i_chr (by omega) (by omega) fun t' s' k9 => ?_
    replace S := St.to S k9; clear k9
    (repeat ((with_reducible refine q5 _ _ ?_); clear q5 Q5)); exact h _ _ (St.ext S)
  · ((repeat ((with_reducible refine q5 _ _ ?_); clear q5 Q5)); (with_reducible refine ite_nf ?_); (repeat ((with_reducible refine q5 _ _ ?_); clear q5 Q5)); (with_reducible refine x_consG fun Q5 q5 => ?_); (with_reducible refine wpAny_Return_some ?_; refine wpAny_BinOp ?_); (with_reducible refine Call_ ?_ ?he9); (case he9 => exact rfl); (with_reducible refine' e_glob (St.bs S) ?e9 ?_ ?hg9 ?hk9 ?hx9 ?hd9); (case hg9 => exact rfl); (case hk9 => exact rfl); (case hx9 => exact rfl); (case hd9 => decide); (case e9 => k_is); (with_reducible refine cf S ?hf9 ?_ ?he9); (case he9 => exact rfl); (case hf9 => k_is); (with_reducible refine args_cons ?_ ?he9); (case he9 => exact rfl); (with_reducible refine' e_loc S ?hv9 ?_ ?hL9 ?hk9 ?hl9 ?hd9); (case hL9 => exact rfl); (case hk9 => exact rfl); (case hl9 => exact rfl); (case hd9 => decide); (case hv9 => exact rfl); (with_reducible refine args_nil ?_); (with_reducible refine And.intro (Keeps.up (St.ext S)) ?_); (repeat ((with_reducible refine q5 _ _ ?_); clear q5 Q5)))
    (refine c_ctoi (k := true) R' (St.bs S) fun t' s' k9 => ?_); replace S := St.to S k9; skip; clear k9
    ((repeat ((with_reducible refine q5 _ _ ?_); clear q5 Q5)); (with_reducible refine e_int ?_);  intro t s' k9; replace S := St.to S k9; skip; clear k9; (with_reducible refine i_or ?_);  intro t s' k9; replace S := St.to S k9; skip; clear k9; (repeat ((with_reducible refine q5 _ _ ?_); clear q5 Q5)))
    rw [e]
    (repeat ((with_reducible refine q5 _ _ ?_); clear q5 Q5)); exact h _ _ (St.ext S)
theorem c_unctrl {k : Bool} {x : Nat} {t : Tok} {Q : Value → Shared → Prop} (R : Room A 3) (B : Base w s.heap) (hx : 32 ≤ x) (hx2 : x ≤ 126) (h : ∀ t' s', Keeps s s' → Q (tx false [x] t') s') :
    wpAny (model PG w) A (call (.ref 171) [sgn k x t]) Q E s := by
  (refine' enterF (binds := [(Str.ofString "c", sgn k x t)]) (by assumption) (by assumption) ?ho ?hcd ?hb ?hl ?hc ?hnd ?_ ?hco ?hgen ?hk; (case ho => k_is); (case hcd => k_is); (case hb => exact rfl); (case hl => exact locs rfl); (case hc => decide); (case hnd => exact by simp); (case hco => exact rfl); (case hgen => exact rfl); (case hk => exact rfl); intro L s₁ hF S R')
  ((repeat ((with_reducible refine q5 _ _ ?_); clear q5 Q5)); (repeat ((with_reducible refine q5 _ _ ?_); clear q5 Q5)); (with_reducible refine x_consG fun Q5 q5 => ?_); (with_reducible refine wpAny_Assign_Name ?_ ?hs9); (case hs9 => exact rfl); (with_reducible refine Call_ ?_ ?he9); (case he9 => exact rfl); (with_reducible refine' e_glob (St.bs S) ?e9 ?_ ?hg9 ?hk9 ?hx9 ?hd9); (case hg9 => exact rfl); (case hk9 => exact rfl); (case hx9 => exact rfl); (case hd9 => decide); (case e9 => k_is); (with_reducible refine cf S ?hf9 ?_ ?he9); (case he9 => exact rfl); (case hf9 => k_is); (with_reducible refine args_cons ?_ ?he9); (case he9 => exact rfl); (with_reducible refine' e_loc S ?hv9 ?_ ?hL9 ?hk9 ?hl9 ?hd9); (case hL9 => exact rfl); (case hk9 => exact rfl); (case hl9 => exact rfl); (case hd9 => decide); (case hv9 => exact rfl); (with_reducible refine args_nil ?_); (with_reducible refine And.intro (Keeps.up (St.ext S)) ?_); (repeat ((with_reducible refine q5 _ _ ?_); clear q5 Q5)))
  (refine c_ctoi (k := k) (R'.mono (by decide)) (St.bs S) fun t' s' k9 => ?_); replace S := St.to S k9; skip; clear k9
  ((repeat ((with_reducible refine q5 _ _ ?_); clear q5 Q5)); (with_reducible refine st_loc S hF ?_ ?hL9 ?hl9 ?hp9); (case hL9 => exact rfl); (case hl9 => exact rfl); (case hp9 => exact rfl); clear S; intro s' S d9 kk9; skip; clear d9 kk9; (repeat ((with_reducible refine q5 _ _ ?_); clear q5 Q5)); (with_reducible refine x_consG fun Q5 q5 => ?_); (with_reducible refine wpAny_If ?_); (with_reducible refine wpAny_isTrue_Compare1 ?_ ?hm9); (case hm9 => exact rfl); (with_reducible refine' e_loc S ?hv9 ?_ ?hL9 ?hk9 ?hl9 ?hd9); (case hL9 => exact rfl); (case hk9 => exact rfl); (case hl9 => exact rfl); (case hd9 => decide); (case hv9 => exact rfl); (with_reducible refine e_int ?_);  intro t s' k9; replace S := St.to S k9; skip; clear k9; (with_reducible refine P.eq_int ?_; refine wpAny_truthy_bool ?_); (repeat ((with_reducible refine q5 _ _ ?_); clear q5 Q5)))
  rw [show ((x : Int) == 127) = false from by simp; omega]
  ((repeat ((with_reducible refine q5 _ _ ?_); clear q5 Q5)); (with_reducible refine ite_f ?_); (repeat ((with_reducible refine q5 _ _ ?_); clear q5 Q5)); (with_reducible refine x_consG fun Q5 q5 => ?_); (with_reducible refine wpAny_If ?_); (with_reducible refine isTrue_plain ?_ ?he9); (case he9 => exact rfl); (with_reducible refine Call_ ?_ ?he9); (case he9 => exact rfl); (with_reducible refine' e_glob (St.bs S) ?e9 ?_ ?hg9 ?hk9 ?hx9 ?hd9); (case hg9 => exact rfl); (case hk9 => exact rfl); (case hx9 => exact rfl); (case hd9 => decide); (case e9 => k_is); (with_reducible refine cf S ?hf9 ?_ ?he9); (case he9 => exact rfl); (case hf9 => k_is); (with_reducible refine args_cons ?_ ?he9); (case he9 => exact rfl); (with_reducible refine wpAny_BinOp ?_); (with_reducible refine' e_loc S ?hv9 ?_ ?hL9 ?hk9 ?hl9 ?hd9); (case hL9 => exact rfl); (case hk9 => exact rfl); (case hl9 => exact rfl); (case hd9 => decide); (case hv9 => exact rfl); (with_reducible refine e_int ?_);  intro t s' k9; replace S := St.to S k9; skip; clear k9; (with_reducible refine i_and ?_);  intro t s' k9; replace S := St.to S k9; skip; clear k9; (with_reducible refine args_nil ?_); (with_reducible refine And.intro (Keeps.up (St.ext S)) ?_); (repeat ((with_reducible refine q5 _ _ ?_); clear q5 Q5)))
  obtain ⟨e1, e2⟩ := band_fact1 x hx hx2
  rw [e1]
  (refine c_isprint R' (St.bs S) hx hx2 fun  s' k9 => ?_); replace S := St.to S k9; skip; clear k9
  ((repeat ((with_reducible refine q5 _ _ ?_); clear q5 Q5)); (with_reducible refine wpAny_truthy_bool ?_; refine ite_t ?_); (repeat ((with_reducible refine q5 _ _ ?_); clear q5 Q5)); (with_reducible refine x_consG fun Q5 q5 => ?_); (with_reducible refine wpAny_Assign_Name ?_ ?hs9); (case hs9 => exact rfl); (with_reducible refine Call_ ?_ ?he9); (case he9 => exact rfl); (with_reducible refine' e_blt (St.bs S) ?e9 ?hv9 ?_ ?hn9 ?hb9 ?hg9 ?hk9 ?hx9 ?hd9); (case hb9 => exact rfl); (case hg9 => exact rfl); (case hk9 => exact rfl); (case hx9 => exact rfl); (case hd9 => decide); (case hn9 => decide); (case e9 => k_is); (case hv9 => with_reducible first | exact bb_isinstance | exact bb_bytes | exact bb_str | exact bb_type | exact bb_issubclass | exact bb_len | exact bb_chr | exact bb_ord | exact bb_int | exact bb_range | exact bb_max | exact bb_min); (with_reducible refine callWith_builtin1 ?_ ?he9 ?hp9); (case he9 => exact rfl); (case hp9 => exact rfl); (with_reducible refine args_cons ?_ ?he9); (case he9 => exact rfl); (with_reducible refine wpAny_BinOp ?_); (with_reducible refine' e_loc S ?hv9 ?_ ?hL9 ?hk9 ?hl9 ?hd9); (case hL9 => exact rfl); (case hk9 => exact rfl); (case hl9 => exact rfl); (case hd9 => decide); (case hv9 => exact rfl); (with_reducible refine e_int ?_);  intro t s' k9; replace S := St.to S k9; skip; clear k9; (with_reducible refine i_and ?_);  intro t s' k9; replace S := St.to S k9; skip; clear k9; (with_reducible refine args_nil ?_); (repeat ((with_reducible refine q5 _ _ ?_); clear q5 Q5)))
  rw [e1]
  (refine i_chr (by omega) (by omega) fun t' s' k9 => ?_); replace S := St.to S k9; skip; clear k9
  ((repeat ((with_reducible refine q5 _ _ ?_); clear q5 Q5)); (with_reducible refine st_loc S hF ?_ ?hL9 ?hl9 ?hp9); (case hL9 => exact rfl); (case hl9 => exact rfl); (case hp9 => exact rfl); clear S; intro s' S d9 kk9; skip; clear d9 kk9; (repeat ((with_reducible refine q5 _ _ ?_); clear q5 Q5)); (with_reducible refine wpAny_execs_nil ?_); (repeat ((with_reducible refine q5 _ _ ?_); clear q5 Q5)); (with_reducible refine wpAny_execs_nil ?_); (repeat ((with_reducible refine q5 _ _ ?_); clear q5 Q5)); (with_reducible refine x_consG fun Q5 q5 => ?_); (with_reducible refine wpAny_If ?_); (with_reducible refine isTrue_plain ?_ ?he9); (case he9 => exact rfl); (with_reducible refine wpAny_BinOp ?_); (with_reducible refine' e_loc S ?hv9 ?_ ?hL9 ?hk9 ?hl9 ?hd9); (case hL9 => exact rfl); (case hk9 => exact rfl); (case hl9 => exact rfl); (case hd9 => decide); (case hv9 => exact rfl); (with_reducible refine e_int ?_);  intro t s' k9; replace S := St.to S k9; skip; clear k9; (with_reducible refine i_and ?_);  intro t s' k9; replace S := St.to S k9; skip; clear k9; (with_reducible refine P.truthy_int ?_); (repeat ((with_reducible refine q5 _ _ ?_); clear q5 Q5)))
  rw [e2, show ((0 : Int) != 0) = false from rfl]
  ((repeat ((with_reducible refine q5 _ _ ?_); clear q5 Q5)); (with_reducible refine ite_f ?_); (repeat ((with_reducible refine q5 _ _ ?_); clear q5 Q5)); (with_reducible refine wpAny_execs_nil ?_); (repeat ((with_reducible refine q5 _ _ ?_); clear q5 Q5)); (with_reducible refine x_consG fun Q5 q5 => ?_); (with_reducible refine wpAny_Return_some ?_); (with_reducible refine' e_loc S ?hv9 ?_ ?hL9 ?hk9 ?hl9 ?hd9); (case hL9 => exact rfl); (case hk9 => exact rfl); (case hl9 => exact rfl); (case hd9 => decide); (case hv9 => exact rfl); (repeat ((with_reducible refine q5 _ _ ?_); clear q5 Q5)))
  (repeat ((with_reducible refine q5 _ _ ?_); clear q5 Q5)); exact h _ _ (St.ext S)
theorem c_unctrlM {k : Bool} {x : Nat} {t : Tok} {Q : Value → Shared → Prop} (R : Room A 3) (B : Base w s.heap) (hx : 32 ≤ x) (hx2 : x ≤ 126) (h : ∀ t' s', Keeps s s' → Q (tx false [33, x] t') s') :
    wpAny (model PG w) A (call (.ref 171) [sgn k (x + 128) t]) Q E s := by
  (refine' enterF (binds := [(Str.ofString "c", sgn k (x + 128) t)]) (by assumption) (by assumption) ?ho ?hcd ?hb ?hl ?hc ?hnd ?_ ?hco ?hgen ?hk; (case ho => k_is); (case hcd => k_is); (case hb => exact rfl); (case hl => exact locs rfl); (case hc => decide); (case hnd => exact by simp); (case hco => exact rfl); (case hgen => exact rfl); (case hk => exact rfl); intro L s₁ hF S R')
  ((repeat ((with_reducible refine q5 _ _ ?_); clear q5 Q5)); (repeat ((with_reducible refine q5 _ _ ?_); clear q5 Q5)); (with_reducible refine x_consG fun Q5 q5 => ?_); (with_reducible refine wpAny_Assign_Name ?_ ?hs9); (case hs9 => exact rfl); (with_reducible refine Call_ ?_ ?he9); (case he9 => exact rfl); (with_reducible refine' e_glob (St.bs S) ?e9 ?_ ?hg9 ?hk9 ?hx9 ?hd9); (case hg9 => exact rfl); (case hk9 => exact rfl); (case hx9 => exact rfl); (case hd9 => decide); (case e9 => k_is); (with_reducible refine cf S ?hf9 ?_ ?he9); (case he9 => exact rfl); (case hf9 => k_is); (with_reducible refine args_cons ?_ ?he9); (case he9 => exact rfl); (with_reducible refine' e_loc S ?hv9 ?_ ?hL9 ?hk9 ?hl9 ?hd9); (case hL9 => exact rfl); (case hk9 => exact rfl); (case hl9 => exact rfl); (case hd9 => decide); (case hv9 => exact rfl); (with_reducible refine args_nil ?_); (with_reducible refine And.intro (Keeps.up (St.ext S)) ?_); (repeat ((with_reducible refine q5 _ _ ?_); clear q5 Q5)))
  (refine c_ctoi (k := k) (R'.mono (by decide)) (St.bs S) fun t' s' k9 => ?_); replace S := St.to S k9; skip; clear k9
  ((repeat ((with_reducible refine q5 _ _ ?_); clear q5 Q5)); (with_reducible refine st_loc S hF ?_ ?hL9 ?hl9 ?hp9); (case hL9 => exact rfl); (case hl9 => exact rfl); (case hp9 => exact rfl); clear S; intro s' S d9 kk9; skip; clear d9 kk9; (repeat ((with_reducible refine q5 _ _ ?_); clear q5 Q5)); (with_reducible refine x_consG fun Q5 q5 => ?_); (with_reducible refine wpAny_If ?_); (with_reducible refine wpAny_isTrue_Compare1 ?_ ?hm9); (case hm9 => exact rfl); (with_reducible refine' e_loc S ?hv9 ?_ ?hL9 ?hk9 ?hl9 ?hd9); (case hL9 => exact rfl); (case hk9 => exact rfl); (case hl9 => exact rfl); (case hd9 => decide); (case hv9 => exact rfl); (with_reducible refine e_int ?_);  intro t s' k9; replace S := St.to S k9; skip; clear k9; (with_reducible refine P.eq_int ?_; refine wpAny_truthy_bool ?_); (repeat ((with_reducible refine q5 _ _ ?_); clear q5 Q5)))
  rw [show (((x + 128 : Nat) : Int) == 127) = false from by simp; omega]
  ((repeat ((with_reducible refine q5 _ _ ?_); clear q5 Q5)); (with_reducible refine ite_f ?_); (repeat ((with_reducible refine q5 _ _ ?_); clear q5 Q5)); (with_reducible refine x_consG fun Q5 q5 => ?_); (with_reducible refine wpAny_If ?_); (with_reducible refine isTrue_plain ?_ ?he9); (case he9 => exact rfl); (with_reducible refine Call_ ?_ ?he9); (case he9 => exact rfl); (with_reducible refine' e_glob (St.bs S) ?e9 ?_ ?hg9 ?hk9 ?hx9 ?hd9); (case hg9 => exact rfl); (case hk9 => exact rfl); (case hx9 => exact rfl); (case hd9 => decide); (case e9 => k_is); (with_reducible refine cf S ?hf9 ?_ ?he9); (case he9 => exact rfl); (case hf9 => k_is); (with_reducible refine args_cons ?_ ?he9); (case he9 => exact rfl); (with_reducible refine wpAny_BinOp ?_); (with_reducible refine' e_loc S ?hv9 ?_ ?hL9 ?hk9 ?hl9 ?hd9); (case hL9 => exact rfl); (case hk9 => exact rfl); (case hl9 => exact rfl); (case hd9 => decide); (case hv9 => exact rfl); (with_reducible refine e_int ?_);  intro t s' k9; replace S := St.to S k9; skip; clear k9; (with_reducible refine i_and ?_);  intro t s' k9; replace S := St.to S k9; skip; clear k9; (with_reducible refine args_nil ?_); (with_reducible refine And.intro (Keeps.up (St.ext S)) ?_); (repeat ((with_reducible refine q5 _ _ ?_); clear q5 Q5)))
  obtain ⟨e1, e2⟩ := band_fact2 x hx hx2
  rw [e1]
  (refine c_isprint R' (St.bs S) hx hx2 fun  s' k9 => ?_); replace S := St.to S k9; skip; clear k9
  ((repeat ((with_reducible refine q5 _ _ ?_); clear q5 Q5)); (with_reducible refine wpAny_truthy_bool ?_; refine ite_t ?_); (repeat ((with_reducible refine q5 _ _ ?_); clear q5 Q5)); (with_reducible refine x_consG fun Q5 q5 => ?_); (with_reducible refine wpAny_Assign_Name ?_ ?hs9); (case hs9 => exact rfl); (with_reducible refine Call_ ?_ ?he9); (case he9 => exact rfl); (with_reducible refine' e_blt (St.bs S) ?e9 ?hv9 ?_ ?hn9 ?hb9 ?hg9 ?hk9 ?hx9 ?hd9); (case hb9 => exact rfl); (case hg9 => exact rfl); (case hk9 => exact rfl); (case hx9 => exact rfl); (case hd9 => decide); (case hn9 => decide); (case e9 => k_is); (case hv9 => with_reducible first | exact bb_isinstance | exact bb_bytes | exact bb_str | exact bb_type | exact bb_issubclass | exact bb_len | exact bb_chr | exact bb_ord | exact bb_int | exact bb_range | exact bb_max | exact bb_min); (with_reducible refine callWith_builtin1 ?_ ?he9 ?hp9); (case he9 => exact rfl); (case hp9 => exact rfl); (with_reducible refine args_cons ?_ ?he9); (case he9 => exact rfl); (with_reducible refine wpAny_BinOp ?_); (with_reducible refine' e_loc S ?hv9 ?_ ?hL9 ?hk9 ?hl9 ?hd9); (case hL9 => exact rfl); (case hk9 => exact rfl); (case hl9 => exact rfl); (case hd9 => decide); (case hv9 => exact rfl); (with_reducible refine e_int ?_);  intro t s' k9; replace S := St.to S k9; skip; clear k9; (with_reducible refine i_and ?_);  intro t s' k9; replace S := St.to S k9; skip; clear k9; (with_reducible refine args_nil ?_); (repeat ((with_reducible refine q5 _ _ ?_); clear q5 Q5)))
  rw [e1]
  (refine i_chr (by omega) (by omega) fun t' s' k9 => ?_); replace S := St.to S k9; skip; clear k9
  ((repeat ((with_reducible refine q5 _ _ ?_); clear q5 Q5)); (with_reducible refine st_loc S hF ?_ ?hL9 ?hl9 ?hp9); (case hL9 => exact rfl); (case hl9 => exact rfl); (case hp9 => exact rfl); clear S; intro s' S d9 kk9; skip; clear d9 kk9; (repeat ((with_reducible refine q5 _ _ ?_); clear q5 Q5)); (with_reducible refine wpAny_execs_nil ?_); (repeat ((with_reducible refine q5 _ _ ?_); clear q5 Q5)); (with_reducible refine wpAny_execs_nil ?_); (repeat ((with_reducible refine q5 _ _ ?_); clear q5 Q5)); (with_reducible refine x_consG fun Q5 q5 => ?_); (with_reducible refine wpAny_If ?_); (with_reducible refine isTrue_plain ?_ ?he9); (case he9 => exact rfl); (with_reducible refine wpAny_BinOp ?_); (with_reducible refine' e_loc S ?hv9 ?_ ?hL9 ?hk9 ?hl9 ?hd9); (case hL9 => exact rfl); (case hk9 => exact rfl); (case hl9 => exact rfl); (case hd9 => decide); (case hv9 => exact rfl); (with_reducible refine e_int ?_);  intro t s' k9; replace S := St.to S k9; skip; clear k9; (with_reducible refine i_and ?_);  intro t s' k9; replace S := St.to S k9; skip; clear k9; (with_reducible refine P.truthy_int ?_); (repeat ((with_reducible refine q5 _ _ ?_); clear q5 Q5)))
  rw [e2, show ((128 : Int) != 0) = true from rfl]
  ((repeat ((with_reducible refine q5 _ _ ?_); clear q5 Q5)); (with_reducible refine ite_t ?_); (repeat ((with_reducible refine q5 _ _ ?_); clear q5 Q5)); (with_reducible refine x_consG fun Q5 q5 => ?_); (with_reducible refine wpAny_Return_some ?_; refine wpAny_BinOp ?_); (with_reducible refine l_ex ?_);  intro t s' k9; replace S := St.to S k9; skip; clear k9; (with_reducible refine' e_loc S ?hv9 ?_ ?hL9 ?hk9 ?hl9 ?hd9); (case hL9 => exact rfl); (case hk9 => exact rfl); (case hl9 => exact rfl); (case hd9 => decide); (case hv9 => exact rfl); (with_reducible refine add_tx ?hsz9 ?_); (case hsz9 => first | assumption | omega | (simp only [List.length_append, List.length_cons, List.length_nil]; omega)); intro t s' k9; replace S := St.to S k9; skip; clear k9; (repeat ((with_reducible refine q5 _ _ ?_); clear q5 Q5)))
  (repeat ((with_reducible refine q5 _ _ ?_); clear q5 Q5)); exact h _ _ (St.ext S)
end
end Mine
end
section
open PySem PySem.W PyProof.Rows PySem.Calls PySem.Builtin
set_option maxRecDepth 100000
set_option maxHeartbeats 4000000
namespace Mine
open BF
noncomputable def KeepBut (L : Addr) (h h' : Heap) : Prop := ∀ b o, b ≠ L → h.get? b = some o → h'.get? b = some o
theorem KeepBut.trans {L : Addr} {h h' h'' : Heap} (a : KeepBut L h h') (b : KeepBut L h' h'') : KeepBut L h h'' := fun x o n e => b x o n (a x o n e)
theorem extBut_keeps {s : Shared} {h' : Heap} (x : Heap.ExtBut s.heap.objs.size s.heap h') : Keeps s { s with heap := h' } := ⟨h', s.toks, rfl, fun b o e => x b o (Nat.ne_of_lt (Heap.lt_size e)) e⟩
section
variable {prog : Program} {A : Around} {E : Value → Shared → Prop} {w w' : World} {s₀ s : Shared} {L : Addr} {vars : Vars} {env : Env}
theorem a_two {n1 n2 : Str} {p1 p2 pos : Pos} {k : Nat} {t : Addr} {v1 v2 : Value} {Q : Unit → Shared → Prop} (S : St w' s₀ L vars s) (hF : s₀.heap.get? L = none) (hh : A.handled = none) (ht : s.heap.IsTuple t [v1, v2].toArray)
    (h : ∀ s', St w' s₀ L ((vars.put n1 v1).put n2 v2) s' → Dsv s.heap s'.heap → KeepBut L s.heap s'.heap → Q () s')
    (hL : env.locals = L) (hl1 : env.kindOf n1 = some .local) (hl2 : env.kindOf n2 = some .local) (hp : (env.scope.kind == .class || (env.scope.kind == .module && env.locals != env.globals)) = false) :
    wpAny (model prog w) A (assign (.Tuple [.Name n1 p1, .Name n2 p2] k pos) env (.ref t)) Q E s := by
  refine wpAny_assign_Tuple hh ht rfl rfl fun h' he => ?_
  have kk := extBut_keeps he
  have S1 := St.to S kk
  refine wpAny_assignInOrder_more (wpAny_assign_Name (st_loc S1 hF (fun s1 S2 d1 k1 => ?_) hL hl1 hp))
  refine wpAny_assignInOrder_more (wpAny_assign_Name (st_loc S2 hF (fun s2 S3 d2 k2 => ?_) hL hl2 hp))
  exact wpAny_pure (h _ S3 (((Up.dsv (Keeps.up kk)).trans d1).trans d2) (fun b o n e => k2 b o n (k1 b o n (Keeps.up kk b o e))))
theorem a_three {n1 n2 n3 : Str} {p1 p2 p3 pos : Pos} {k : Nat} {t : Addr} {v1 v2 v3 : Value} {Q : Unit → Shared → Prop} (S : St w' s₀ L vars s) (hF : s₀.heap.get? L = none) (hh : A.handled = none) (ht : s.heap.IsTuple t [v1, v2, v3].toArray)
    (h : ∀ s', St w' s₀ L (((vars.put n1 v1).put n2 v2).put n3 v3) s' → Dsv s.heap s'.heap → KeepBut L s.heap s'.heap → Q () s')
    (hL : env.locals = L) (hl1 : env.kindOf n1 = some .local) (hl2 : env.kindOf n2 = some .local) (hl3 : env.kindOf n3 = some .local) (hp : (env.scope.kind == .class || (env.scope.kind == .module && env.locals != env.globals)) = false) :
    wpAny (model prog w) A (assign (.Tuple [.Name n1 p1, .Name n2 p2, .Name n3 p3] k pos) env (.ref t)) Q E s := by
  refine wpAny_assign_Tuple hh ht rfl rfl fun h' he => ?_
  have kk := extBut_keeps he
  have S1 := St.to S kk
  refine wpAny_assignInOrder_more (wpAny_assign_Name (st_loc S1 hF (fun s1 S2 d1 k1 => ?_) hL hl1 hp))
  refine wpAny_assignInOrder_more (wpAny_assign_Name (st_loc S2 hF (fun s2 S3 d2 k2 => ?_) hL hl2 hp))
  refine wpAny_assignInOrder_more (wpAny_assign_Name (st_loc S3 hF (fun s3 S4 d3 k3 => ?_) hL hl3 hp))
  exact wpAny_pure (h _ S4 ((((Up.dsv (Keeps.up kk)).trans d1).trans d2).trans d3) (fun b o n e => k3 b o n (k2 b o n (k1 b o n (Keeps.up kk b o e)))))
theorem a_swap {n1 n2 : Str} {t : Addr} {v1 v2 : Value} {Q : Unit → Shared → Prop} (S : St w' s₀ L vars s) (hF : s₀.heap.get? L = none) (hh : A.handled = none) (ht : s.heap.IsTuple t [v1, v2].toArray)
    (h : ∀ s', St w' s₀ L ((vars.put n2 v2).put n1 v1) s' → Dsv s.heap s'.heap → KeepBut L s.heap s'.heap → Q () s')
    (hL : env.locals = L) (hl1 : env.kindOf n1 = some .local) (hl2 : env.kindOf n2 = some .local) (hp : (env.scope.kind == .class || (env.scope.kind == .module && env.locals != env.globals)) = false) :
    wpAny (model prog w) A (unpackItems (.ref t) ([n1, n2] : List Str).length none) (fun items s₂ => wpAny (model prog w) A (assignInOrder (([n1, n2] : List Str).reverse.map fun n => bindName env n) items.reverse) Q E s₂) E s := by
  refine wpAny_unpackItems_tuple (items := [v1, v2].toArray) hh ht fun h' he => ?_
  have kk := extBut_keeps he
  have S1 := St.to S kk
  refine wpAny_assignInOrder_more (wpAny_bindName (st_loc S1 hF (fun s1 S2 d1 k1 => ?_) hL hl2 hp))
  refine wpAny_assignInOrder_more (wpAny_bindName (st_loc S2 hF (fun s2 S3 d2 k2 => ?_) hL hl1 hp))
  exact wpAny_pure (h _ S3 (((Up.dsv (Keeps.up kk)).trans d1).trans d2) (fun b o n e => k2 b o n (k1 b o n (Keeps.up kk b o e))))
end
noncomputable def spH (cs : List Nat) : List Nat := if hd47 cs != [] && hd47 cs != List.replicate (hd47 cs).length 47 then rs47 (hd47 cs) else hd47 cs
theorem oct_hd {cs : List Nat} (o : Oct cs) : Oct (hd47 cs) := by rw [← hd_eq_take]; intro c hc; exact o c (List.mem_of_mem_take hc)
theorem oct_rep (n : Nat) : Oct (List.replicate n 47) := fun c hc => by rw [List.eq_of_mem_replicate hc]; omega
/-- splitroot: the root and the rest -/
noncomputable def srR (cs : List Nat) : List Nat := if cs.take 1 != [47] then [] else if (cs.take 2).drop 1 != [47] || (cs.take 3).drop 2 == [47] then [47] else cs.take 2
noncomputable def srT (cs : List Nat) : List Nat := if cs.take 1 != [47] then cs else if (cs.take 2).drop 1 != [47] || (cs.take 3).drop 2 == [47] then cs.drop 1 else cs.drop 2
section
variable {A : Around} {E : Value → Shared → Prop} {w : World} {s : Shared}
theorem c_split {k : Bool} {cs : List Nat} {t : Tok} {Q : Value → Shared → Prop} (R : Room A 2) (B : Base w s.heap) (o : Oct cs) (hsz : cs.length ≤ 1000000)
    (h : ∀ a t1 t2 s', Keeps s s' → s'.heap.IsTuple a [tx k (spH cs) t1, tx k (tl47 cs) t2].toArray → Q (.ref a) s') :
    wpAny (model PG w) A (call (.ref 122) [tx k cs t]) Q E s := by
  (refine' enterF (binds := [(Str.ofString "p", tx k cs t)]) (by assumption) (by assumption) ?ho ?hcd ?hb ?hl ?hc ?hnd ?_ ?hco ?hgen ?hk; (case ho => k_is); (case hcd => k_is); (case hb => exact rfl); (case hl => exact locs rfl); (case hc => decide); (case hnd => exact by simp); (case hco => exact rfl); (case hgen => exact rfl); (case hk => exact rfl); intro L s₁ hF S R')
  ((repeat ((with_reducible refine q5 _ _ ?_); clear q5 Q5)); (repeat ((with_reducible refine q5 _ _ ?_); clear q5 Q5)); (with_reducible refine x_consG fun Q5 q5 => ?_); (with_reducible refine wpAny_Assign_Name ?_ ?hs9); (case hs9 => exact rfl); (with_reducible refine Call_ ?_ ?he9); (case he9 => exact rfl); (with_reducible refine' e_glob (St.bs S) ?e9 ?_ ?hg9 ?hk9 ?hx9 ?hd9); (case hg9 => exact rfl); (case hk9 => exact rfl); (case hx9 => exact rfl); (case hd9 => decide); (case e9 => k_is); (with_reducible refine cf S ?hf9 ?_ ?he9); (case he9 => exact rfl); (case hf9 => k_is); (with_reducible refine args_cons ?_ ?he9); (case he9 => exact rfl); (with_reducible refine' e_loc S ?hv9 ?_ ?hL9 ?hk9 ?hl9 ?hd9); (case hL9 => exact rfl); (case hk9 => exact rfl); (case hl9 => exact rfl); (case hd9 => decide); (case hv9 => exact rfl); (with_reducible refine args_nil ?_); (with_reducible refine And.intro (Keeps.up (St.ext S)) ?_); (repeat ((with_reducible refine q5 _ _ ?_); clear q5 Q5)))
  (refine c_fspath R' (St.bs S) fun  s' k9 => ?_); replace S := St.to S k9; skip; clear k9
  ((repeat ((with_reducible refine q5 _ _ ?_); clear q5 Q5)); (with_reducible refine st_loc S hF ?_ ?hL9 ?hl9 ?hp9); (case hL9 => exact rfl); (case hl9 => exact rfl); (case hp9 => exact rfl); clear S; intro s' S d9 kk9; skip; clear d9 kk9; (repeat ((with_reducible refine q5 _ _ ?_); clear q5 Q5)); (with_reducible refine x_consG fun Q5 q5 => ?_); (with_reducible refine wpAny_Assign_Name ?_ ?hs9); (case hs9 => exact rfl); (with_reducible refine Call_ ?_ ?he9); (case he9 => exact rfl); (with_reducible refine' e_glob (St.bs S) ?e9 ?_ ?hg9 ?hk9 ?hx9 ?hd9); (case hg9 => exact rfl); (case hk9 => exact rfl); (case hx9 => exact rfl); (case hd9 => decide); (case e9 => k_is); (with_reducible refine cf S ?hf9 ?_ ?he9); (case he9 => exact rfl); (case hf9 => k_is); (with_reducible refine args_cons ?_ ?he9); (case he9 => exact rfl); (with_reducible refine' e_loc S ?hv9 ?_ ?hL9 ?hk9 ?hl9 ?hd9); (case hL9 => exact rfl); (case hk9 => exact rfl); (case hl9 => exact rfl); (case hd9 => decide); (case hv9 => exact rfl); (with_reducible refine args_nil ?_); (with_reducible refine And.intro (Keeps.up (St.ext S)) ?_); (repeat ((with_reducible refine q5 _ _ ?_); clear q5 Q5)))
  (refine c_get_sep R' (St.bs S) fun t' s' k9 => ?_); replace S := St.to S k9; skip; clear k9
  ((repeat ((with_reducible refine q5 _ _ ?_); clear q5 Q5)); (with_reducible refine st_loc S hF ?_ ?hL9 ?hl9 ?hp9); (case hL9 => exact rfl); (case hl9 => exact rfl); (case hp9 => exact rfl); clear S; intro s' S d9 kk9; skip; clear d9 kk9; (repeat ((with_reducible refine q5 _ _ ?_); clear q5 Q5)); (with_reducible refine x_consG fun Q5 q5 => ?_); (with_reducible refine wpAny_Assign_Name ?_ ?hs9); (case hs9 => exact rfl); (with_reducible refine wpAny_BinOp ?_); (with_reducible refine' MethodCall_ ?_ ?he9); (case he9 => exact rfl); (with_reducible refine' e_loc S ?hv9 ?_ ?hL9 ?hk9 ?hl9 ?hd9); (case hL9 => exact rfl); (case hk9 => exact rfl); (case hl9 => exact rfl); (case hd9 => decide); (case hv9 => exact rfl); (with_reducible refine gm_rf ?_); (with_reducible refine cm1 ?_ ?he9 ?hp9); (case he9 => exact rfl); (case hp9 => exact rfl); (with_reducible refine args_cons ?_ ?he9); (case he9 => exact rfl); (with_reducible refine' e_loc S ?hv9 ?_ ?hL9 ?hk9 ?hl9 ?hd9); (case hL9 => exact rfl); (case hk9 => exact rfl); (case hl9 => exact rfl); (case hd9 => decide); (case hv9 => exact rfl); (with_reducible refine args_nil ?_); (with_reducible refine c_rf ?ho9 ?_); (case ho9 => first | assumption | exact Oct.nil | exact BF.oct47 | (intro c hc; simp at hc; omega)); intro t s' k9; replace S := St.to S k9; skip; clear k9; (with_reducible refine e_int ?_);  intro t s' k9; replace S := St.to S k9; skip; clear k9; (with_reducible refine i_add ?_);  intro t s' k9; replace S := St.to S k9; skip; clear k9; (with_reducible refine st_loc S hF ?_ ?hL9 ?hl9 ?hp9); (case hL9 => exact rfl); (case hl9 => exact rfl); (case hp9 => exact rfl); clear S; intro s' S d9 kk9; skip; clear d9 kk9; (repeat ((with_reducible refine q5 _ _ ?_); clear q5 Q5)); (with_reducible refine x_consG fun Q5 q5 => ?_); (with_reducible refine' PyProof.Rows.Assign_Tuple_swapped ?_ ?hs9 ?hw9); (case hs9 => exact rfl); (case hw9 => exact rfl); (with_reducible refine Tuple_ ?_); (with_reducible refine args_cons ?_ ?he9); (case he9 => exact rfl); (with_reducible refine Subscript_ ?_); (with_reducible refine' e_loc S ?hv9 ?_ ?hL9 ?hk9 ?hl9 ?hd9); (case hL9 => exact rfl); (case hk9 => exact rfl); (case hl9 => exact rfl); (case hd9 => decide); (case hv9 => exact rfl); (with_reducible refine e_slice ?_; refine p_none ?_; refine p_some ?_); (with_reducible refine' e_loc S ?hv9 ?_ ?hL9 ?hk9 ?hl9 ?hd9); (case hL9 => exact rfl); (case hk9 => exact rfl); (case hl9 => exact rfl); (case hd9 => decide); (case hv9 => exact rfl); (with_reducible refine p_none ?_); (repeat ((with_reducible refine q5 _ _ ?_); clear q5 Q5)))
  have hix : lastIx cs + 1 = ((hd47 cs).length : Int) := by unfold lastIx; omega
  rw [hix] at S ⊢
  (repeat ((with_reducible refine q5 _ _ ?_); clear q5 Q5))
  (intro a9 s' k9 hsl; replace S := St.to S k9; skip; clear k9)
  (refine sub_txE (by assumption) (.none) (.int _ _) (by first | assumption | omega | (simp only [List.length_append, List.length_cons, List.length_nil]; omega)) ((cut_upto cs _).trans (hd_eq_take cs)) fun t s' k9 => ?_); replace S := St.to S k9; skip; clear k9 hsl
  ((repeat ((with_reducible refine q5 _ _ ?_); clear q5 Q5)); (with_reducible refine args_cons ?_ ?he9); (case he9 => exact rfl); (with_reducible refine Subscript_ ?_); (with_reducible refine' e_loc S ?hv9 ?_ ?hL9 ?hk9 ?hl9 ?hd9); (case hL9 => exact rfl); (case hk9 => exact rfl); (case hl9 => exact rfl); (case hd9 => decide); (case hv9 => exact rfl); (with_reducible refine e_slice ?_; refine p_some ?_); (with_reducible refine' e_loc S ?hv9 ?_ ?hL9 ?hk9 ?hl9 ?hd9); (case hL9 => exact rfl); (case hk9 => exact rfl); (case hl9 => exact rfl); (case hd9 => decide); (case hv9 => exact rfl); (with_reducible refine p_none ?_; refine p_none ?_); (repeat ((with_reducible refine q5 _ _ ?_); clear q5 Q5)))
  (intro a9 s' k9 hsl; replace S := St.to S k9; skip; clear k9)
  (refine sub_txE (by assumption) (.int _ _) (.none) (by first | assumption | omega | (simp only [List.length_append, List.length_cons, List.length_nil]; omega)) ((cut_from cs _).trans (tl_eq_drop cs)) fun t s' k9 => ?_); replace S := St.to S k9; skip; clear k9 hsl
  ((repeat ((with_reducible refine q5 _ _ ?_); clear q5 Q5)); (with_reducible refine args_nil ?_); (repeat ((with_reducible refine q5 _ _ ?_); clear q5 Q5)))
  (refine n_tup (by first | exact Nat.le_of_ble_eq_true rfl | simp) fun a s' k9 hn ht => ?_); replace S := St.to S k9; skip; clear k9
  refine a_swap (n1 := Str.ofString "head") (n2 := Str.ofString "tail") S hF R'.hh ht (fun s' S2 d9 kk9 => ?_) rfl rfl rfl rfl
  clear S; have S := S2; clear S2 d9 kk9 ht
  have hl1 := hd_len_le cs
  have ho1 := oct_hd o
  ((repeat ((with_reducible refine q5 _ _ ?_); clear q5 Q5)); (repeat ((with_reducible refine q5 _ _ ?_); clear q5 Q5)); (with_reducible refine x_consG fun Q5 q5 => ?_); (with_reducible refine wpAny_If ?_; refine isTrue_and ?_); (with_reducible refine isTrue_plain ?_ ?he9); (case he9 => exact rfl); (with_reducible refine' e_loc S ?hv9 ?_ ?hL9 ?hk9 ?hl9 ?hd9); (case hL9 => exact rfl); (case hk9 => exact rfl); (case hl9 => exact rfl); (case hd9 => decide); (case hv9 => exact rfl); (with_reducible refine truthy_tx ?hsz9 ?_); (case hsz9 => first | assumption | omega | (simp only [List.length_append, List.length_cons, List.length_nil]; omega)); intro s' k9; replace S := St.to S k9; skip; clear k9; (repeat ((with_reducible refine q5 _ _ ?_); clear q5 Q5)))
  refine ite_b (fun hb => ?_) (fun hb => ?_)
  · ((repeat ((with_reducible refine q5 _ _ ?_); clear q5 Q5)); (with_reducible refine isTrue_and ?_); (with_reducible refine wpAny_isTrue_Compare1 ?_ ?hm9); (case hm9 => exact rfl); (with_reducible refine' e_loc S ?hv9 ?_ ?hL9 ?hk9 ?hl9 ?hd9); (case hL9 => exact rfl); (case hk9 => exact rfl); (case hl9 => exact rfl); (case hd9 => decide); (case hv9 => exact rfl); (with_reducible refine wpAny_BinOp ?_); (with_reducible refine' e_loc S ?hv9 ?_ ?hL9 ?hk9 ?hl9 ?hd9); (case hL9 => exact rfl); (case hk9 => exact rfl); (case hl9 => exact rfl); (case hd9 => decide); (case hv9 => exact rfl); (with_reducible refine Call_ ?_ ?he9); (case he9 => exact rfl); (with_reducible refine' e_blt (St.bs S) ?e9 ?hv9 ?_ ?hn9 ?hb9 ?hg9 ?hk9 ?hx9 ?hd9); (case hb9 => exact rfl); (case hg9 => exact rfl); (case hk9 => exact rfl); (case hx9 => exact rfl); (case hd9 => decide); (case hn9 => decide); (case e9 => k_is); (case hv9 => with_reducible first | exact bb_isinstance | exact bb_bytes | exact bb_str | exact bb_type | exact bb_issubclass | exact bb_len | exact bb_chr | exact bb_ord | exact bb_int | exact bb_range | exact bb_max | exact bb_min); (with_reducible refine callWith_builtin1 ?_ ?he9 ?hp9); (case he9 => exact rfl); (case hp9 => exact rfl); (with_reducible refine args_cons ?_ ?he9); (case he9 => exact rfl); (with_reducible refine' e_loc S ?hv9 ?_ ?hL9 ?hk9 ?hl9 ?hd9); (case hL9 => exact rfl); (case hk9 => exact rfl); (case hl9 => exact rfl); (case hd9 => decide); (case hv9 => exact rfl); (with_reducible refine args_nil ?_); (with_reducible refine c_len ?hsz9 ?_); (case hsz9 => first | assumption | omega | (simp only [List.length_append, List.length_cons, List.length_nil]; omega)); intro t s' k9; replace S := St.to S k9; skip; clear k9; (repeat ((with_reducible refine q5 _ _ ?_); clear q5 Q5)))
    (refine c_mul (by omega) fun t' s' k9 => ?_); replace S := St.to S k9; skip; clear k9
    have ho2 := oct_rep (hd47 cs).length
    ((repeat ((with_reducible refine q5 _ _ ?_); clear q5 Q5)); (with_reducible refine ne_tx ?ho19 ?ho29 ?_); (case ho19 => first | assumption | exact Oct.nil | exact BF.oct47 | (intro c hc; simp at hc; omega)); (case ho29 => first | assumption | exact Oct.nil | exact BF.oct47 | (intro c hc; simp at hc; omega)); (with_reducible refine wpAny_truthy_bool ?_); (repeat ((with_reducible refine q5 _ _ ?_); clear q5 Q5)))
    refine ite_b (fun hb2 => ?_) (fun hb2 => ?_)
    · ((repeat ((with_reducible refine q5 _ _ ?_); clear q5 Q5)); (with_reducible refine isTrue_and_nil ?_; refine ite_t ?_); (repeat ((with_reducible refine q5 _ _ ?_); clear q5 Q5)); (with_reducible refine x_consG fun Q5 q5 => ?_); (with_reducible refine wpAny_Assign_Name ?_ ?hs9); (case hs9 => exact rfl); (with_reducible refine' MethodCall_ ?_ ?he9); (case he9 => exact rfl); (with_reducible refine' e_loc S ?hv9 ?_ ?hL9 ?hk9 ?hl9 ?hd9); (case hL9 => exact rfl); (case hk9 => exact rfl); (case hl9 => exact rfl); (case hd9 => decide); (case hv9 => exact rfl); (with_reducible refine gm_rs ?_); (with_reducible refine cm1 ?_ ?he9 ?hp9); (case he9 => exact rfl); (case hp9 => exact rfl); (with_reducible refine args_cons ?_ ?he9); (case he9 => exact rfl); (with_reducible refine' e_loc S ?hv9 ?_ ?hL9 ?hk9 ?hl9 ?hd9); (case hL9 => exact rfl); (case hk9 => exact rfl); (case hl9 => exact rfl); (case hd9 => decide); (case hv9 => exact rfl); (with_reducible refine args_nil ?_); (with_reducible refine c_rs ?ho9 ?hsz9 ?_); (case ho9 => first | assumption | exact Oct.nil | exact BF.oct47 | (intro c hc; simp at hc; omega)); (case hsz9 => first | assumption | omega | (simp only [List.length_append, List.length_cons, List.length_nil]; omega)); intro t s' k9; replace S := St.to S k9; skip; clear k9; (with_reducible refine st_loc S hF ?_ ?hL9 ?hl9 ?hp9); (case hL9 => exact rfl); (case hl9 => exact rfl); (case hp9 => exact rfl); clear S; intro s' S d9 kk9; skip; clear d9 kk9; (repeat ((with_reducible refine q5 _ _ ?_); clear q5 Q5)); (with_reducible refine wpAny_execs_nil ?_); (repeat ((with_reducible refine q5 _ _ ?_); clear q5 Q5)); (with_reducible refine x_consG fun Q5 q5 => ?_); (with_reducible refine wpAny_Return_some ?_; refine Tuple_ ?_); (with_reducible refine args_cons ?_ ?he9); (case he9 => exact rfl); (with_reducible refine' e_loc S ?hv9 ?_ ?hL9 ?hk9 ?hl9 ?hd9); (case hL9 => exact rfl); (case hk9 => exact rfl); (case hl9 => exact rfl); (case hd9 => decide); (case hv9 => exact rfl); (with_reducible refine args_cons ?_ ?he9); (case he9 => exact rfl); (with_reducible refine' e_loc S ?hv9 ?_ ?hL9 ?hk9 ?hl9 ?hd9); (case hL9 => exact rfl); (case hk9 => exact rfl); (case hl9 => exact rfl); (case hd9 => decide); (case hv9 => exact rfl); (with_reducible refine args_nil ?_); (repeat ((with_reducible refine q5 _ _ ?_); clear q5 Q5)))
      (refine n_tup (by first | exact Nat.le_of_ble_eq_true rfl | simp) fun a s' k9 hn ht => ?_); replace S := St.to S k9; skip; clear k9
      have e : spH cs = rs47 (hd47 cs) := by unfold spH; rw [if_pos]; simp at hb hb2 ⊢; exact ⟨hb, hb2⟩
      rw [← e] at ht; (repeat ((with_reducible refine q5 _ _ ?_); clear q5 Q5)); exact h _ _ _ _ (St.ext S) ht
    · ((repeat ((with_reducible refine q5 _ _ ?_); clear q5 Q5)); (with_reducible refine ite_f ?_); (repeat ((with_reducible refine q5 _ _ ?_); clear q5 Q5)); (with_reducible refine wpAny_execs_nil ?_); (repeat ((with_reducible refine q5 _ _ ?_); clear q5 Q5)); (with_reducible refine x_consG fun Q5 q5 => ?_); (with_reducible refine wpAny_Return_some ?_; refine Tuple_ ?_); (with_reducible refine args_cons ?_ ?he9); (case he9 => exact rfl); (with_reducible refine' e_loc S ?hv9 ?_ ?hL9 ?hk9 ?hl9 ?hd9); (case hL9 => exact rfl); (case hk9 => exact rfl); (case hl9 => exact rfl); (case hd9 => decide); (case hv9 => exact rfl); (with_reducible refine args_cons ?_ ?he9); (case he9 => exact rfl); (with_reducible refine' e_loc S ?hv9 ?_ ?hL9 ?hk9 ?hl9 ?hd9); (case hL9 => exact rfl); (case hk9 => exact rfl); (case hl9 => exact rfl); (case hd9 => decide); (case hv9 => exact rfl); (with_reducible refine args_nil ?_); (repeat ((with_reducible refine q5 _ _ ?_); clear q5 Q5)))
      (refine n_tup (by first | exact Nat.le_of_ble_eq_true rfl | simp) fun a s' k9 hn ht => ?_); replace S := St.to S k9; skip; clear k9
      have e : spH cs = hd47 cs := by unfold spH; rw [if_neg]; simp at hb hb2 ⊢; intro _; exact hb2
      rw [← e] at ht; (repeat ((with_reducible refine q5 _ _ ?_); clear q5 Q5)); exact h _ _ _ _ (St.ext S) ht
  · ((repeat ((with_reducible refine q5 _ _ ?_); clear q5 Q5)); (with_reducible refine ite_f ?_); (repeat ((with_reducible refine q5 _ _ ?_); clear q5 Q5)); (with_reducible refine wpAny_execs_nil ?_); (repeat ((with_reducible refine q5 _ _ ?_); clear q5 Q5)); (with_reducible refine x_consG fun Q5 q5 => ?_); (with_reducible refine wpAny_Return_some ?_; refine Tuple_ ?_); (with_reducible refine args_cons ?_ ?he9); (case he9 => exact rfl); (with_reducible refine' e_loc S ?hv9 ?_ ?hL9 ?hk9 ?hl9 ?hd9); (case hL9 => exact rfl); (case hk9 => exact rfl); (case hl9 => exact rfl); (case hd9 => decide); (case hv9 => exact rfl); (with_reducible refine args_cons ?_ ?he9); (case he9 => exact rfl); (with_reducible refine' e_loc S ?hv9 ?_ ?hL9 ?hk9 ?hl9 ?hd9); (case hL9 => exact rfl); (case hk9 => exact rfl); (case hl9 => exact rfl); (case hd9 => decide); (case hv9 => exact rfl); (with_reducible refine args_nil ?_); (repeat ((with_reducible refine q5 _ _ ?_); clear q5 Q5)))
    (refine n_tup (by first | exact Nat.le_of_ble_eq_true rfl | simp) fun a s' k9 hn ht => ?_); replace S := St.to S k9; skip; clear k9
    have e : spH cs = hd47 cs := by unfold spH; rw [if_neg]; simp at hb ⊢; intro h; exact absurd hb h
    rw [← e] at ht; (repeat ((with_reducible refine q5 _ _ ?_); clear q5 Q5)); exact h _ _ _ _ (St.ext S) ht
theorem c_splitroot {k : Bool} {cs : List Nat} {t : Tok} {Q : Value → Shared → Prop} (R : Room A 2) (B : Base w s.heap) (o : Oct cs) (hsz : cs.length ≤ 1000000)
    (h : ∀ a t1 t2 t3 s', Keeps s s' → s'.heap.IsTuple a [tx k [] t1, tx k (srR cs) t2, tx k (srT cs) t3].toArray → Q (.ref a) s') :
    wpAny (model PG w) A (call (.ref 129) [tx k cs t]) Q E s := by
  (refine' enterF (binds := [(Str.ofString "p", tx k cs t)]) (by assumption) (by assumption) ?ho ?hcd ?hb ?hl ?hc ?hnd ?_ ?hco ?hgen ?hk; (case ho => k_is); (case hcd => k_is); (case hb => exact rfl); (case hl => exact locs rfl); (case hc => decide); (case hnd => exact by simp); (case hco => exact rfl); (case hgen => exact rfl); (case hk => exact rfl); intro L s₁ hF S R')
  ((repeat ((with_reducible refine q5 _ _ ?_); clear q5 Q5)); (repeat ((with_reducible refine q5 _ _ ?_); clear q5 Q5)); (with_reducible refine x_consG fun Q5 q5 => ?_); (with_reducible refine wpAny_Assign_Name ?_ ?hs9); (case hs9 => exact rfl); (with_reducible refine Call_ ?_ ?he9); (case he9 => exact rfl); (with_reducible refine' e_glob (St.bs S) ?e9 ?_ ?hg9 ?hk9 ?hx9 ?hd9); (case hg9 => exact rfl); (case hk9 => exact rfl); (case hx9 => exact rfl); (case hd9 => decide); (case e9 => k_is); (with_reducible refine cf S ?hf9 ?_ ?he9); (case he9 => exact rfl); (case hf9 => k_is); (with_reducible refine args_cons ?_ ?he9); (case he9 => exact rfl); (with_reducible refine' e_loc S ?hv9 ?_ ?hL9 ?hk9 ?hl9 ?hd9); (case hL9 => exact rfl); (case hk9 => exact rfl); (case hl9 => exact rfl); (case hd9 => decide); (case hv9 => exact rfl); (with_reducible refine args_nil ?_); (with_reducible refine And.intro (Keeps.up (St.ext S)) ?_); (repeat ((with_reducible refine q5 _ _ ?_); clear q5 Q5)))
  (refine c_fspath R' (St.bs S) fun  s' k9 => ?_); replace S := St.to S k9; skip; clear k9
  refine st_loc S hF (fun s' S2 d9 kk9 => ?_) rfl rfl rfl
  clear S; have S := S2; clear S2 d9 kk9
  (repeat ((with_reducible refine q5 _ _ ?_); clear q5 Q5))
  refine x_cons (wpAny_mono (Q := fun f s' => f = .next ∧ ∃ t1 t2, St w s L [(Str.ofString "p", tx k cs t), (Str.ofString "sep", tx k [47] t1), (Str.ofString "empty", tx k [] t2)] s') ?_ ?_ fun _ _ x => x)
  · cases k
    · ((repeat ((with_reducible refine q5 _ _ ?_); clear q5 Q5)); (with_reducible refine wpAny_If ?_); (with_reducible refine isTrue_plain ?_ ?he9); (case he9 => exact rfl); (with_reducible refine Call_ ?_ ?he9); (case he9 => exact rfl); (with_reducible refine' e_blt (St.bs S) ?e9 ?hv9 ?_ ?hn9 ?hb9 ?hg9 ?hk9 ?hx9 ?hd9); (case hb9 => exact rfl); (case hg9 => exact rfl); (case hk9 => exact rfl); (case hx9 => exact rfl); (case hd9 => decide); (case hn9 => decide); (case e9 => k_is); (case hv9 => with_reducible first | exact bb_isinstance | exact bb_bytes | exact bb_str | exact bb_type | exact bb_issubclass | exact bb_len | exact bb_chr | exact bb_ord | exact bb_int | exact bb_range | exact bb_max | exact bb_min); (with_reducible refine callWith_builtin1 ?_ ?he9 ?hp9); (case he9 => exact rfl); (case hp9 => exact rfl); (with_reducible refine args_cons ?_ ?he9); (case he9 => exact rfl); (with_reducible refine' e_loc S ?hv9 ?_ ?hL9 ?hk9 ?hl9 ?hd9); (case hL9 => exact rfl); (case hk9 => exact rfl); (case hl9 => exact rfl); (case hd9 => decide); (case hv9 => exact rfl); (with_reducible refine args_cons ?_ ?he9); (case he9 => exact rfl); (with_reducible refine' e_blt (St.bs S) ?e9 ?hv9 ?_ ?hn9 ?hb9 ?hg9 ?hk9 ?hx9 ?hd9); (case hb9 => exact rfl); (case hg9 => exact rfl); (case hk9 => exact rfl); (case hx9 => exact rfl); (case hd9 => decide); (case hn9 => decide); (case e9 => k_is); (case hv9 => with_reducible first | exact bb_isinstance | exact bb_bytes | exact bb_str | exact bb_type | exact bb_issubclass | exact bb_len | exact bb_chr | exact bb_ord | exact bb_int | exact bb_range | exact bb_max | exact bb_min); (with_reducible refine args_nil ?_); (with_reducible refine isi_tx_bytes ?_);  intro s' k9; replace S := St.to S k9; skip; clear k9; (with_reducible refine wpAny_truthy_bool ?_; refine ite_f ?_); (repeat ((with_reducible refine q5 _ _ ?_); clear q5 Q5)); (with_reducible refine x_consG fun Q5 q5 => ?_); (with_reducible refine wpAny_Assign_Name ?_ ?hs9); (case hs9 => exact rfl); (with_reducible refine l_sl ?_);  intro t s' k9; replace S := St.to S k9; skip; clear k9; (with_reducible refine st_loc S hF ?_ ?hL9 ?hl9 ?hp9); (case hL9 => exact rfl); (case hl9 => exact rfl); (case hp9 => exact rfl); clear S; intro s' S d9 kk9; skip; clear d9 kk9; (repeat ((with_reducible refine q5 _ _ ?_); clear q5 Q5)); (with_reducible refine x_consG fun Q5 q5 => ?_); (with_reducible refine wpAny_Assign_Name ?_ ?hs9); (case hs9 => exact rfl); (with_reducible refine l_0 ?_);  intro t s' k9; replace S := St.to S k9; skip; clear k9; (with_reducible refine st_loc S hF ?_ ?hL9 ?hl9 ?hp9); (case hL9 => exact rfl); (case hl9 => exact rfl); (case hp9 => exact rfl); clear S; intro s' S d9 kk9; skip; clear d9 kk9; (repeat ((with_reducible refine q5 _ _ ?_); clear q5 Q5)); (with_reducible refine wpAny_execs_nil ?_); (repeat ((with_reducible refine q5 _ _ ?_); clear q5 Q5)))
      (repeat ((with_reducible refine q5 _ _ ?_); clear q5 Q5)); exact ⟨rfl, _, _, S.sub ⟨rfl, rfl, rfl, trivial⟩⟩
    · ((repeat ((with_reducible refine q5 _ _ ?_); clear q5 Q5)); (with_reducible refine wpAny_If ?_); (with_reducible refine isTrue_plain ?_ ?he9); (case he9 => exact rfl); (with_reducible refine Call_ ?_ ?he9); (case he9 => exact rfl); (with_reducible refine' e_blt (St.bs S) ?e9 ?hv9 ?_ ?hn9 ?hb9 ?hg9 ?hk9 ?hx9 ?hd9); (case hb9 => exact rfl); (case hg9 => exact rfl); (case hk9 => exact rfl); (case hx9 => exact rfl); (case hd9 => decide); (case hn9 => decide); (case e9 => k_is); (case hv9 => with_reducible first | exact bb_isinstance | exact bb_bytes | exact bb_str | exact bb_type | exact bb_issubclass | exact bb_len | exact bb_chr | exact bb_ord | exact bb_int | exact bb_range | exact bb_max | exact bb_min); (with_reducible refine callWith_builtin1 ?_ ?he9 ?hp9); (case he9 => exact rfl); (case hp9 => exact rfl); (with_reducible refine args_cons ?_ ?he9); (case he9 => exact rfl); (with_reducible refine' e_loc S ?hv9 ?_ ?hL9 ?hk9 ?hl9 ?hd9); (case hL9 => exact rfl); (case hk9 => exact rfl); (case hl9 => exact rfl); (case hd9 => decide); (case hv9 => exact rfl); (with_reducible refine args_cons ?_ ?he9); (case he9 => exact rfl); (with_reducible refine' e_blt (St.bs S) ?e9 ?hv9 ?_ ?hn9 ?hb9 ?hg9 ?hk9 ?hx9 ?hd9); (case hb9 => exact rfl); (case hg9 => exact rfl); (case hk9 => exact rfl); (case hx9 => exact rfl); (case hd9 => decide); (case hn9 => decide); (case e9 => k_is); (case hv9 => with_reducible first | exact bb_isinstance | exact bb_bytes | exact bb_str | exact bb_type | exact bb_issubclass | exact bb_len | exact bb_chr | exact bb_ord | exact bb_int | exact bb_range | exact bb_max | exact bb_min); (with_reducible refine args_nil ?_); (with_reducible refine isi_tx_bytes ?_);  intro s' k9; replace S := St.to S k9; skip; clear k9; (with_reducible refine wpAny_truthy_bool ?_; refine ite_t ?_); (repeat ((with_reducible refine q5 _ _ ?_); clear q5 Q5)); (with_reducible refine x_consG fun Q5 q5 => ?_); (with_reducible refine wpAny_Assign_Name ?_ ?hs9); (case hs9 => exact rfl); (with_reducible refine b_sl ?_);  intro t s' k9; replace S := St.to S k9; skip; clear k9; (with_reducible refine st_loc S hF ?_ ?hL9 ?hl9 ?hp9); (case hL9 => exact rfl); (case hl9 => exact rfl); (case hp9 => exact rfl); clear S; intro s' S d9 kk9; skip; clear d9 kk9; (repeat ((with_reducible refine q5 _ _ ?_); clear q5 Q5)); (with_reducible refine x_consG fun Q5 q5 => ?_); (with_reducible refine wpAny_Assign_Name ?_ ?hs9); (case hs9 => exact rfl); (with_reducible refine b_0 ?_);  intro t s' k9; replace S := St.to S k9; skip; clear k9; (with_reducible refine st_loc S hF ?_ ?hL9 ?hl9 ?hp9); (case hL9 => exact rfl); (case hl9 => exact rfl); (case hp9 => exact rfl); clear S; intro s' S d9 kk9; skip; clear d9 kk9; (repeat ((with_reducible refine q5 _ _ ?_); clear q5 Q5)); (with_reducible refine wpAny_execs_nil ?_); (repeat ((with_reducible refine q5 _ _ ?_); clear q5 Q5)))
      (repeat ((with_reducible refine q5 _ _ ?_); clear q5 Q5)); exact ⟨rfl, _, _, S.sub ⟨rfl, rfl, rfl, trivial⟩⟩
  rintro f s' ⟨rfl, t1, t2, S⟩
  dsimp only
  ((repeat ((with_reducible refine q5 _ _ ?_); clear q5 Q5)); (repeat ((with_reducible refine q5 _ _ ?_); clear q5 Q5)); (with_reducible refine x_consG fun Q5 q5 => ?_); (with_reducible refine wpAny_If ?_); (with_reducible refine wpAny_isTrue_Compare1 ?_ ?hm9); (case hm9 => exact rfl); (with_reducible refine Subscript_ ?_); (with_reducible refine' e_loc S ?hv9 ?_ ?hL9 ?hk9 ?hl9 ?hd9); (case hL9 => exact rfl); (case hk9 => exact rfl); (case hl9 => exact rfl); (case hd9 => decide); (case hv9 => exact rfl); (with_reducible refine e_slice ?_; refine p_none ?_; refine p_some ?_); (with_reducible refine e_int ?_);  intro t s' k9; replace S := St.to S k9; skip; clear k9; (with_reducible refine p_none ?_); (repeat ((with_reducible refine q5 _ _ ?_); clear q5 Q5)))
  (intro a9 s' k9 hsl; replace S := St.to S k9; skip; clear k9)
  (refine sub_txE (by assumption) (.none) (.int _ _) (by first | assumption | omega | (simp only [List.length_append, List.length_cons, List.length_nil]; omega)) (cut_upto cs 1) fun t s' k9 => ?_); replace S := St.to S k9; skip; clear k9 hsl
  have ho1 : Oct (cs.take 1) := fun c hc => o c (List.mem_of_mem_take hc)
  ((repeat ((with_reducible refine q5 _ _ ?_); clear q5 Q5)); (with_reducible refine' e_loc S ?hv9 ?_ ?hL9 ?hk9 ?hl9 ?hd9); (case hL9 => exact rfl); (case hk9 => exact rfl); (case hl9 => exact rfl); (case hd9 => decide); (case hv9 => exact rfl); (with_reducible refine ne_tx ?ho19 ?ho29 ?_); (case ho19 => first | assumption | exact Oct.nil | exact BF.oct47 | (intro c hc; simp at hc; omega)); (case ho29 => first | assumption | exact Oct.nil | exact BF.oct47 | (intro c hc; simp at hc; omega)); (with_reducible refine wpAny_truthy_bool ?_); (repeat ((with_reducible refine q5 _ _ ?_); clear q5 Q5)))
  refine ite_b (fun hb => ?_) (fun hb => ?_)
  · ((repeat ((with_reducible refine q5 _ _ ?_); clear q5 Q5)); (repeat ((with_reducible refine q5 _ _ ?_); clear q5 Q5)); (with_reducible refine x_consG fun Q5 q5 => ?_); (with_reducible refine wpAny_Return_some ?_; refine Tuple_ ?_); (with_reducible refine args_cons ?_ ?he9); (case he9 => exact rfl); (with_reducible refine' e_loc S ?hv9 ?_ ?hL9 ?hk9 ?hl9 ?hd9); (case hL9 => exact rfl); (case hk9 => exact rfl); (case hl9 => exact rfl); (case hd9 => decide); (case hv9 => exact rfl); (with_reducible refine args_cons ?_ ?he9); (case he9 => exact rfl); (with_reducible refine' e_loc S ?hv9 ?_ ?hL9 ?hk9 ?hl9 ?hd9); (case hL9 => exact rfl); (case hk9 => exact rfl); (case hl9 => exact rfl); (case hd9 => decide); (case hv9 => exact rfl); (with_reducible refine args_cons ?_ ?he9); (case he9 => exact rfl); (with_reducible refine' e_loc S ?hv9 ?_ ?hL9 ?hk9 ?hl9 ?hd9); (case hL9 => exact rfl); (case hk9 => exact rfl); (case hl9 => exact rfl); (case hd9 => decide); (case hv9 => exact rfl); (with_reducible refine args_nil ?_); (repeat ((with_reducible refine q5 _ _ ?_); clear q5 Q5)))
    (refine n_tup (by first | exact Nat.le_of_ble_eq_true rfl | simp) fun a s' k9 hn ht => ?_); replace S := St.to S k9; skip; clear k9
    have e1 : srR cs = [] := by unfold srR; rw [if_pos hb]
    have e2 : srT cs = cs := by unfold srT; rw [if_pos hb]
    (repeat ((with_reducible refine q5 _ _ ?_); clear q5 Q5)); exact h _ _ _ _ _ (St.ext S) (by rw [e1, e2]; exact ht)
  · ((repeat ((with_reducible refine q5 _ _ ?_); clear q5 Q5)); (repeat ((with_reducible refine q5 _ _ ?_); clear q5 Q5)); (with_reducible refine x_consG fun Q5 q5 => ?_); (with_reducible refine wpAny_If ?_; refine isTrue_or ?_); (with_reducible refine wpAny_isTrue_Compare1 ?_ ?hm9); (case hm9 => exact rfl); (with_reducible refine Subscript_ ?_); (with_reducible refine' e_loc S ?hv9 ?_ ?hL9 ?hk9 ?hl9 ?hd9); (case hL9 => exact rfl); (case hk9 => exact rfl); (case hl9 => exact rfl); (case hd9 => decide); (case hv9 => exact rfl); (with_reducible refine e_slice ?_; refine p_some ?_); (with_reducible refine e_int ?_);  intro t s' k9; replace S := St.to S k9; skip; clear k9; (with_reducible refine p_some ?_); (with_reducible refine e_int ?_);  intro t s' k9; replace S := St.to S k9; skip; clear k9; (with_reducible refine p_none ?_); (repeat ((with_reducible refine q5 _ _ ?_); clear q5 Q5)))
    (intro a9 s' k9 hsl; replace S := St.to S k9; skip; clear k9)
    (refine sub_txE (by assumption) (.int _ _) (.int _ _) (by first | assumption | omega | (simp only [List.length_append, List.length_cons, List.length_nil]; omega)) (cut_both cs 1 2) fun t s' k9 => ?_); replace S := St.to S k9; skip; clear k9 hsl
    have ho2 : Oct ((cs.take 2).drop 1) := fun c hc => o c (List.mem_of_mem_take (List.mem_of_mem_drop hc))
    have ho3 : Oct ((cs.take 3).drop 2) := fun c hc => o c (List.mem_of_mem_take (List.mem_of_mem_drop hc))
    ((repeat ((with_reducible refine q5 _ _ ?_); clear q5 Q5)); (with_reducible refine' e_loc S ?hv9 ?_ ?hL9 ?hk9 ?hl9 ?hd9); (case hL9 => exact rfl); (case hk9 => exact rfl); (case hl9 => exact rfl); (case hd9 => decide); (case hv9 => exact rfl); (with_reducible refine ne_tx ?ho19 ?ho29 ?_); (case ho19 => first | assumption | exact Oct.nil | exact BF.oct47 | (intro c hc; simp at hc; omega)); (case ho29 => first | assumption | exact Oct.nil | exact BF.oct47 | (intro c hc; simp at hc; omega)); (with_reducible refine wpAny_truthy_bool ?_); (repeat ((with_reducible refine q5 _ _ ?_); clear q5 Q5)))
    refine ite_b (fun hb2 => ?_) (fun hb2 => ?_)
    · ((repeat ((with_reducible refine q5 _ _ ?_); clear q5 Q5)); (with_reducible refine ite_t ?_); (repeat ((with_reducible refine q5 _ _ ?_); clear q5 Q5)); (with_reducible refine x_consG fun Q5 q5 => ?_); (with_reducible refine wpAny_Return_some ?_; refine Tuple_ ?_); (with_reducible refine args_cons ?_ ?he9); (case he9 => exact rfl); (with_reducible refine' e_loc S ?hv9 ?_ ?hL9 ?hk9 ?hl9 ?hd9); (case hL9 => exact rfl); (case hk9 => exact rfl); (case hl9 => exact rfl); (case hd9 => decide); (case hv9 => exact rfl); (with_reducible refine args_cons ?_ ?he9); (case he9 => exact rfl); (with_reducible refine' e_loc S ?hv9 ?_ ?hL9 ?hk9 ?hl9 ?hd9); (case hL9 => exact rfl); (case hk9 => exact rfl); (case hl9 => exact rfl); (case hd9 => decide); (case hv9 => exact rfl); (with_reducible refine args_cons ?_ ?he9); (case he9 => exact rfl); (with_reducible refine Subscript_ ?_); (with_reducible refine' e_loc S ?hv9 ?_ ?hL9 ?hk9 ?hl9 ?hd9); (case hL9 => exact rfl); (case hk9 => exact rfl); (case hl9 => exact rfl); (case hd9 => decide); (case hv9 => exact rfl); (with_reducible refine e_slice ?_; refine p_some ?_); (with_reducible refine e_int ?_);  intro t s' k9; replace S := St.to S k9; skip; clear k9; (with_reducible refine p_none ?_; refine p_none ?_); (repeat ((with_reducible refine q5 _ _ ?_); clear q5 Q5)))
      (intro a9 s' k9 hsl; replace S := St.to S k9; skip; clear k9)
      (refine sub_txE (by assumption) (.int _ _) (.none) (by first | assumption | omega | (simp only [List.length_append, List.length_cons, List.length_nil]; omega)) (cut_from cs 1) fun t s' k9 => ?_); replace S := St.to S k9; skip; clear k9 hsl
      ((repeat ((with_reducible refine q5 _ _ ?_); clear q5 Q5)); (with_reducible refine args_nil ?_); (repeat ((with_reducible refine q5 _ _ ?_); clear q5 Q5)))
      (refine n_tup (by first | exact Nat.le_of_ble_eq_true rfl | simp) fun a s' k9 hn ht => ?_); replace S := St.to S k9; skip; clear k9
      have e1 : srR cs = [47] := by unfold srR; rw [if_neg (by rw [hb]; simp), if_pos (by rw [hb2]; simp)]
      have e2 : srT cs = cs.drop 1 := by unfold srT; rw [if_neg (by rw [hb]; simp), if_pos (by rw [hb2]; simp)]
      rw [← e2] at ht
      (repeat ((with_reducible refine q5 _ _ ?_); clear q5 Q5)); exact h _ _ _ _ _ (St.ext S) (by rw [e1]; exact ht)
    · ((repeat ((with_reducible refine q5 _ _ ?_); clear q5 Q5)); (with_reducible refine isTrue_or ?_); (with_reducible refine wpAny_isTrue_Compare1 ?_ ?hm9); (case hm9 => exact rfl); (with_reducible refine Subscript_ ?_); (with_reducible refine' e_loc S ?hv9 ?_ ?hL9 ?hk9 ?hl9 ?hd9); (case hL9 => exact rfl); (case hk9 => exact rfl); (case hl9 => exact rfl); (case hd9 => decide); (case hv9 => exact rfl); (with_reducible refine e_slice ?_; refine p_some ?_); (with_reducible refine e_int ?_);  intro t s' k9; replace S := St.to S k9; skip; clear k9; (with_reducible refine p_some ?_); (with_reducible refine e_int ?_);  intro t s' k9; replace S := St.to S k9; skip; clear k9; (with_reducible refine p_none ?_); (repeat ((with_reducible refine q5 _ _ ?_); clear q5 Q5)))
      (intro a9 s' k9 hsl; replace S := St.to S k9; skip; clear k9)
      (refine sub_txE (by assumption) (.int _ _) (.int _ _) (by first | assumption | omega | (simp only [List.length_append, List.length_cons, List.length_nil]; omega)) (cut_both cs 2 3) fun t s' k9 => ?_); replace S := St.to S k9; skip; clear k9 hsl
      ((repeat ((with_reducible refine q5 _ _ ?_); clear q5 Q5)); (with_reducible refine' e_loc S ?hv9 ?_ ?hL9 ?hk9 ?hl9 ?hd9); (case hL9 => exact rfl); (case hk9 => exact rfl); (case hl9 => exact rfl); (case hd9 => decide); (case hv9 => exact rfl); (with_reducible refine eq_tx ?ho19 ?ho29 ?_); (case ho19 => first | assumption | exact Oct.nil | exact BF.oct47 | (intro c hc; simp at hc; omega)); (case ho29 => first | assumption | exact Oct.nil | exact BF.oct47 | (intro c hc; simp at hc; omega)); (with_reducible refine wpAny_truthy_bool ?_); (repeat ((with_reducible refine q5 _ _ ?_); clear q5 Q5)))
      refine ite_b (fun hb3 => ?_) (fun hb3 => ?_)
      · ((repeat ((with_reducible refine q5 _ _ ?_); clear q5 Q5)); (with_reducible refine ite_t ?_); (repeat ((with_reducible refine q5 _ _ ?_); clear q5 Q5)); (with_reducible refine x_consG fun Q5 q5 => ?_); (with_reducible refine wpAny_Return_some ?_; refine Tuple_ ?_); (with_reducible refine args_cons ?_ ?he9); (case he9 => exact rfl); (with_reducible refine' e_loc S ?hv9 ?_ ?hL9 ?hk9 ?hl9 ?hd9); (case hL9 => exact rfl); (case hk9 => exact rfl); (case hl9 => exact rfl); (case hd9 => decide); (case hv9 => exact rfl); (with_reducible refine args_cons ?_ ?he9); (case he9 => exact rfl); (with_reducible refine' e_loc S ?hv9 ?_ ?hL9 ?hk9 ?hl9 ?hd9); (case hL9 => exact rfl); (case hk9 => exact rfl); (case hl9 => exact rfl); (case hd9 => decide); (case hv9 => exact rfl); (with_reducible refine args_cons ?_ ?he9); (case he9 => exact rfl); (with_reducible refine Subscript_ ?_); (with_reducible refine' e_loc S ?hv9 ?_ ?hL9 ?hk9 ?hl9 ?hd9); (case hL9 => exact rfl); (case hk9 => exact rfl); (case hl9 => exact rfl); (case hd9 => decide); (case hv9 => exact rfl); (with_reducible refine e_slice ?_; refine p_some ?_); (with_reducible refine e_int ?_);  intro t s' k9; replace S := St.to S k9; skip; clear k9; (with_reducible refine p_none ?_; refine p_none ?_); (repeat ((with_reducible refine q5 _ _ ?_); clear q5 Q5)))
        (intro a9 s' k9 hsl; replace S := St.to S k9; skip; clear k9)
        (refine sub_txE (by assumption) (.int _ _) (.none) (by first | assumption | omega | (simp only [List.length_append, List.length_cons, List.length_nil]; omega)) (cut_from cs 1) fun t s' k9 => ?_); replace S := St.to S k9; skip; clear k9 hsl
        ((repeat ((with_reducible refine q5 _ _ ?_); clear q5 Q5)); (with_reducible refine args_nil ?_); (repeat ((with_reducible refine q5 _ _ ?_); clear q5 Q5)))
        (refine n_tup (by first | exact Nat.le_of_ble_eq_true rfl | simp) fun a s' k9 hn ht => ?_); replace S := St.to S k9; skip; clear k9
        have e1 : srR cs = [47] := by unfold srR; rw [if_neg (by rw [hb]; simp), if_pos (by rw [hb3]; simp)]
        have e2 : srT cs = cs.drop 1 := by unfold srT; rw [if_neg (by rw [hb]; simp), if_pos (by rw [hb3]; simp)]
        rw [← e2] at ht
        (repeat ((with_reducible refine q5 _ _ ?_); clear q5 Q5)); exact h _ _ _ _ _ (St.ext S) (by rw [e1]; exact ht)
      · ((repeat ((with_reducible refine q5 _ _ ?_); clear q5 Q5)); (with_reducible refine isTrue_or_nil ?_; refine ite_f ?_); (repeat ((with_reducible refine q5 _ _ ?_); clear q5 Q5)); (with_reducible refine x_consG fun Q5 q5 => ?_); (with_reducible refine wpAny_Return_some ?_; refine Tuple_ ?_); (with_reducible refine args_cons ?_ ?he9); (case he9 => exact rfl); (with_reducible refine' e_loc S ?hv9 ?_ ?hL9 ?hk9 ?hl9 ?hd9); (case hL9 => exact rfl); (case hk9 => exact rfl); (case hl9 => exact rfl); (case hd9 => decide); (case hv9 => exact rfl); (with_reducible refine args_cons ?_ ?he9); (case he9 => exact rfl); (with_reducible refine Subscript_ ?_); (with_reducible refine' e_loc S ?hv9 ?_ ?hL9 ?hk9 ?hl9 ?hd9); (case hL9 => exact rfl); (case hk9 => exact rfl); (case hl9 => exact rfl); (case hd9 => decide); (case hv9 => exact rfl); (with_reducible refine e_slice ?_; refine p_none ?_; refine p_some ?_); (with_reducible refine e_int ?_);  intro t s' k9; replace S := St.to S k9; skip; clear k9; (with_reducible refine p_none ?_); (repeat ((with_reducible refine q5 _ _ ?_); clear q5 Q5)))
        (intro a9 s' k9 hsl; replace S := St.to S k9; skip; clear k9)
        (refine sub_txE (by assumption) (.none) (.int _ _) (by first | assumption | omega | (simp only [List.length_append, List.length_cons, List.length_nil]; omega)) (cut_upto cs 2) fun t s' k9 => ?_); replace S := St.to S k9; skip; clear k9 hsl
        ((repeat ((with_reducible refine q5 _ _ ?_); clear q5 Q5)); (with_reducible refine args_cons ?_ ?he9); (case he9 => exact rfl); (with_reducible refine Subscript_ ?_); (with_reducible refine' e_loc S ?hv9 ?_ ?hL9 ?hk9 ?hl9 ?hd9); (case hL9 => exact rfl); (case hk9 => exact rfl); (case hl9 => exact rfl); (case hd9 => decide); (case hv9 => exact rfl); (with_reducible refine e_slice ?_; refine p_some ?_); (with_reducible refine e_int ?_);  intro t s' k9; replace S := St.to S k9; skip; clear k9; (with_reducible refine p_none ?_; refine p_none ?_); (repeat ((with_reducible refine q5 _ _ ?_); clear q5 Q5)))
        (intro a9 s' k9 hsl; replace S := St.to S k9; skip; clear k9)
        (refine sub_txE (by assumption) (.int _ _) (.none) (by first | assumption | omega | (simp only [List.length_append, List.length_cons, List.length_nil]; omega)) (cut_from cs 2) fun t s' k9 => ?_); replace S := St.to S k9; skip; clear k9 hsl
        ((repeat ((with_reducible refine q5 _ _ ?_); clear q5 Q5)); (with_reducible refine args_nil ?_); (repeat ((with_reducible refine q5 _ _ ?_); clear q5 Q5)))
        (refine n_tup (by first | exact Nat.le_of_ble_eq_true rfl | simp) fun a s' k9 hn ht => ?_); replace S := St.to S k9; skip; clear k9
        have e1 : srR cs = cs.take 2 := by unfold srR; rw [if_neg (by rw [hb]; simp), if_neg (by rw [hb2, hb3]; simp)]
        have e2 : srT cs = cs.drop 2 := by unfold srT; rw [if_neg (by rw [hb]; simp), if_neg (by rw [hb2, hb3]; simp)]
        rw [← e2, ← e1] at ht
        (repeat ((with_reducible refine q5 _ _ ?_); clear q5 Q5)); exact h _ _ _ _ _ (St.ext S) ht
end
end Mine
end
section
open PySem PySem.W PyProof.Rows PySem.Calls PySem.Builtin
set_option maxRecDepth 100000
set_option maxHeartbeats 4000000
namespace Mine
open BF

/-- the end of a walk under a name of its own: the long postcondition is then written once -/
theorem gen {α : Type} {M : Model} {A : Around} {m : Sem α} {Q : α → Shared → Prop} {E : Value → Shared → Prop} {s : Shared} (h : ∀ Q' : α → Shared → Prop, (∀ f s', Q f s' → Q' f s') → wpAny M A m Q' E s) : wpAny M A m Q E s := h Q fun _ _ x => x

theorem St.dv0 {w : World} {s₀ s : Shared} {L : Addr} {vars : Vars} (S : St w s₀ L vars s) : Dsv s.heap s.heap := Dsv.refl _
theorem DsvL {s s' : Shared} (k : Keeps s s') : Dsv s.heap s'.heap := Up.dsv (Keeps.up k)
theorem St.kv0 {w : World} {s₀ s : Shared} {L : Addr} {vars : Vars} (S : St w s₀ L vars s) : Keeps s s := Keeps.refl _
abbrev KB (W : List Addr) (h h' : Heap) : Prop := ∀ b o, b ∉ W → h.get? b = some o → h'.get? b = some o
theorem KB.refl (W : List Addr) (h : Heap) : KB W h h := fun _ _ _ e => e
theorem KB.trans {W : List Addr} {h h' h'' : Heap} (a : KB W h h') (b : KB W h' h'') : KB W h h'' := fun x o n e => b x o n (a x o n e)
theorem KB.up {W : List Addr} {h h' : Heap} (a : Up h h') : KB W h h' := fun x o _ e => a x o e
theorem KB.keeps {W : List Addr} {h : Heap} {s s' : Shared} (a : KB W h s.heap) (k : Keeps s s') : KB W h s'.heap := a.trans (KB.up (Keeps.up k))
theorem KB.but {W : List Addr} {L : Addr} {h h' : Heap} (a : KeepBut L h h') (hL : L ∈ W) : KB W h h' := fun x o n e => a x o (fun q => n (q ▸ hL)) e
theorem KB.mono {W W' : List Addr} {h h' : Heap} (a : KB W h h') (hs : ∀ b ∈ W, b ∈ W') : KB W' h h' := fun x o n e => a x o (fun q => n (hs _ q)) e
theorem lkb {W : List Addr} {h h' : Heap} {a items} (x : h.IsList a items) (k : KB W h h') (n : a ∉ W) : h'.IsList a items := x.at fun o e => k a o n e
theorem tkb {W : List Addr} {h h' : Heap} {a items} (x : h.IsTuple a items) (k : KB W h h') (n : a ∉ W) : h'.IsTuple a items := x.at fun o e => k a o n e
theorem lup {h h' : Heap} {a items} (x : h.IsList a items) (k : Up h h') : h'.IsList a items := x.at fun o e => k a o e
theorem tup {h h' : Heap} {a items} (x : h.IsTuple a items) (k : Up h h') : h'.IsTuple a items := x.at fun o e => k a o e
theorem IsList.some {h : Heap} {a items} (x : h.IsList a items) : ∃ o, h.get? a = some o := let ⟨o, ho, _⟩ := x; ⟨o, ho⟩
theorem IsTuple.some {h : Heap} {a items} (x : h.IsTuple a items) : ∃ o, h.get? a = some o := let ⟨o, ho, _⟩ := x; ⟨o, ho⟩
theorem ne_of_fresh {h : Heap} {a b : Addr} (x : h.get? a = none) (y : ∃ o, h.get? b = some o) : b ≠ a := by
  rintro rfl; obtain ⟨o, e⟩ := y; rw [x] at e; cases e

theorem nsSome {h : Heap} {a m} (x : h.Ns a m) : ∃ o, h.get? a = some o := let ⟨o, _, _, ho, _⟩ := x; ⟨o, ho⟩

structure Itr (w : World) (A : Around) (s₁ s : Shared) (ax : List Addr) (n : Nat) (P : Nat → Value → Prop) (I : Addr) : Prop where
  k : Keeps s₁ s
  fr : s₁.heap.get? I = none
  ex : ∃ o, s.heap.get? I = some o
  W : ∃ St, Walks PG w A I (I :: ax) [I] n P St ∧ St 0 s.heap ∧ ∀ i h, St i h → ∃ o, h.get? I = some o

section
variable {A : Around} {E : Value → Shared → Prop} {w : World} {s : Shared} {Q : Value → Shared → Prop}
theorem it_list {a : Addr} {items : List Value} (hl : s.heap.IsList a items.toArray) (hh : A.handled = none)
    (h : ∀ I s', Itr w A s s' [a] items.length (fun i v => items[i]? = some v) I → Q (.ref I) s') : wpAny (model PG w) A (pyIter (.ref a)) Q E s := by
  obtain ⟨ol, hol, _⟩ := id hl
  refine wpAny_pyIter_list hl ?_
  have hne : a ≠ s.heap.objs.size := ne_of_fresh (get_none_size _) ⟨_, hol⟩
  have W := Walks.list (prog := PG) (w := w) hh s.heap.objs.size a hne items.toArray
  have e : (fun i v => items.toArray[i]? = some v) = (fun (i : Nat) (v : Value) => items[i]? = some v) := by funext i v; simp
  rw [e] at W
  exact h _ _ ⟨Keeps.push _ _, get_none_size _, ⟨_, Heap.get?_push_size _ rfl⟩, _, W, ⟨⟨_, Heap.get?_push_size _ rfl, rfl, rfl⟩, hl.push _⟩, fun _ _ st => let ⟨⟨o, ho, _⟩, _⟩ := st; ⟨o, ho⟩⟩
theorem it_tuple {a : Addr} {items : List Value} (hl : s.heap.IsTuple a items.toArray) (hh : A.handled = none)
    (h : ∀ I s', Itr w A s s' [a] items.length (fun i v => items[i]? = some v) I → Q (.ref I) s') : wpAny (model PG w) A (pyIter (.ref a)) Q E s := by
  obtain ⟨ol, hol, _⟩ := id hl
  refine wpAny_pyIter_tuple hl ?_
  have hne : a ≠ s.heap.objs.size := ne_of_fresh (get_none_size _) ⟨_, hol⟩
  have W := Walks.tuple (prog := PG) (w := w) hh s.heap.objs.size a hne items.toArray
  have e : (fun i v => items.toArray[i]? = some v) = (fun (i : Nat) (v : Value) => items[i]? = some v) := by funext i v; simp
  rw [e] at W
  exact h _ _ ⟨Keeps.push _ _, get_none_size _, ⟨_, Heap.get?_push_size _ rfl⟩, _, W, ⟨⟨_, Heap.get?_push_size _ rfl, rfl, rfl⟩, hl.at fun o e => Heap.get?_push_of_some _ e⟩, fun _ _ st => let ⟨⟨o, ho, _⟩, _⟩ := st; ⟨o, ho⟩⟩
theorem range_size (n : Nat) : Builtin.Range.rangeSize 0 (n : Int) 1 = (n : Int) := by
  unfold Builtin.Range.rangeSize
  split
  · split <;> omega
  · omega
theorem it_range {r : Addr} {t u v : Tok} {n : Nat} (hr : IsRange s.heap r 0 (n : Int) 1 t u v) (hn : n ≤ 1048576) (hh : A.handled = none)
    (h : ∀ I s', Itr w A s s' [] n (fun i v => ∃ t, v = .int (i : Int) t) I → Q (.ref I) s') : wpAny (model PG w) A (pyIter (.ref r)) Q E s := by
  refine wpAny_pyIter_range hr ?_ ?_
  · unfold Builtin.Range.small
    rw [range_size]
    unfold Builtin.Range.rangeFitsLong
    simp; omega
  · have W := Walks.range (prog := PG) (w := w) hh s.heap.objs.size 0 1 n
    have e : (fun (i : Nat) (v : Value) => ∃ t, v = Value.int (0 + (i : Int) * 1) t) = (fun (i : Nat) (v : Value) => ∃ t, v = .int (i : Int) t) := by
      funext i v; rw [Int.mul_one, Int.zero_add]
    rw [e] at W
    refine h _ _ ⟨Keeps.push _ _, get_none_size _, ⟨_, Heap.get?_push_size _ rfl⟩, _, W, ?_, fun _ _ st => ⟨_, st⟩⟩
    rw [range_size]
    show IsRangeIter _ _ _ _ _
    simpa using Heap.get?_push_size _ rfl
theorem it_tx {k : Bool} {cs : List Nat} {t : Tok} (o : Oct cs) (hh : A.handled = none)
    (h : ∀ I s', Itr w A s s' [] cs.length (fun i v => ∃ c u, cs[i]? = some c ∧ v = sgn k c u) I → Q (.ref I) s') : wpAny (model PG w) A (pyIter (tx k cs t)) Q E s := by
  cases k
  · have e : SignAt (sOf cs) = (fun (i : Nat) (v : Value) => ∃ c u, cs[i]? = some c ∧ v = sgn false c u) := by
      funext i v
      unfold SignAt
      have : (sOf cs).cps[i]? = cs[i]? := by show cs.toArray[i]? = _; simp
      rw [this]; rfl
    cases ha : (sOf cs).cps.all (· < 128)
    · refine wpAny_pyIter_wide (x := sOf cs) ha ?_
      have W := Walks.strWide (prog := PG) (w := w) hh s.heap.objs.size (sOf cs) t
      rw [e] at W
      exact h _ _ ⟨Keeps.push _ _, get_none_size _, ⟨_, Heap.get?_push_size _ rfl⟩, _, W, ⟨_, Heap.get?_push_size _ rfl, rfl, rfl⟩, fun _ _ st => let ⟨o, ho, _⟩ := st; ⟨o, ho⟩⟩
    · refine wpAny_pyIter_ascii (x := sOf cs) ha ?_
      have W := Walks.strAscii (prog := PG) (w := w) hh s.heap.objs.size (sOf cs) t
      rw [e] at W
      exact h _ _ ⟨Keeps.push _ _, get_none_size _, ⟨_, Heap.get?_push_size _ rfl⟩, _, W, ⟨_, Heap.get?_push_size _ rfl, rfl, rfl⟩, fun _ _ st => let ⟨o, ho, _⟩ := st; ⟨o, ho⟩⟩
  · refine KBw.pyIter_bytes (b := oc cs) ?_
    have W := KBw.walks (prog := PG) (w := w) hh s.heap.objs.size (oc cs) t
    have e : (fun (i : Nat) (v : Value) => ∃ c u, (oc cs)[i]? = some c ∧ v = .int (c.toNat : Int) u) = (fun (i : Nat) (v : Value) => ∃ c u, cs[i]? = some c ∧ v = sgn true c u) := by
      funext i v
      have hg : (oc cs)[i]? = (cs[i]?).map UInt8.ofNat := by simp [oc]
      rw [hg]
      apply propext
      constructor
      · rintro ⟨c, u, hc, rfl⟩
        cases hi : cs[i]? with
        | none => rw [hi] at hc; cases hc
        | some d =>
          rw [hi] at hc
          simp at hc
          refine ⟨d, u, rfl, ?_⟩
          subst hc
          show Value.int _ _ = Value.int _ _
          have := o d (List.mem_of_getElem? hi)
          rw [UInt8.toNat_ofNat']
          have : d % 2 ^ 8 = d := by omega
          rw [this]
      · rintro ⟨c, u, hc, rfl⟩
        refine ⟨UInt8.ofNat c, u, by rw [hc]; rfl, ?_⟩
        show Value.int _ _ = Value.int _ _
        have := o c (List.mem_of_getElem? hc)
        rw [UInt8.toNat_ofNat']
        have : c % 2 ^ 8 = c := by omega
        rw [this]
    rw [e] at W
    have hs : (oc cs).size = cs.length := oc_size cs
    rw [hs] at W
    exact h _ _ ⟨Keeps.push _ _, get_none_size _, ⟨_, Heap.get?_push_size _ rfl⟩, _, W, ⟨_, Heap.get?_push_size _ rfl, rfl, rfl⟩, fun _ _ st => let ⟨o, ho, _⟩ := st; ⟨o, ho⟩⟩
end

section
variable {A : Around} {E : Value → Shared → Prop} {w : World} {s₀ s s' : Shared} {L : Addr} {env : Env} {vars : Vars}
theorem St.some {w : World} {s₀ s : Shared} {L : Addr} {vars : Vars} (S : St w s₀ L vars s) : ∃ o, s.heap.get? L = some o := let ⟨_, hn, _⟩ := S.ns; let ⟨o, _, _, ho, _⟩ := hn; ⟨o, ho⟩
theorem St.kb {W : List Addr} (S : St w s₀ L vars s) {h' : Heap} {tk : Nat} (k : KB W s.heap h') (hW : ∀ b ∈ W, s₀.heap.get? b = none) (hL : L ∉ W) : St w s₀ L vars { s with heap := h', toks := tk } := by
  obtain ⟨ext, ⟨m, hn, hm⟩, base⟩ := S
  refine ⟨?_, ⟨m, hn.at' fun o e => k _ o hL e, hm⟩, base⟩
  obtain ⟨h0, tk0, rfl, k0⟩ := ext
  refine ⟨h', tk, rfl, fun b o e => k b o (fun hb => ?_) (k0 b o e)⟩
  rw [hW b hb] at e; cases e

/-- the for loop over what an iterator gives; own: the objects that the turns may change -/
theorem for_rule {σ : Type} {x : Str} {px : Pos} {body : List Stmt} {ax : List Addr} {n : Nat} {P : Nat → Value → Prop} {I : Addr} {R : Result → Shared → Prop} (own : List Addr)
    (V : σ → Vars) (Inv : Nat → σ → Heap → Prop) (σ₀ : σ)
    (T : Itr w A s s' ax n P I) (S : St w s₀ L vars s) (hF : s₀.heap.get? L = none) (hLo : L ∉ own)
    (hown : ∀ b ∈ own, s₀.heap.get? b = none ∧ ∃ o, s.heap.get? b = some o) (hax : ∀ a ∈ ax, a ≠ L ∧ a ∉ own)
    (stab : ∀ i σ h h', Inv i σ h → (∀ b ∈ own, ∀ o, h.get? b = some o → h'.get? b = some o) → Inv i σ h')
    (hsub : Sub (V σ₀) vars) (h0 : Inv 0 σ₀ s.heap)
    (hxl : env.kindOf x = some .local) (hL : env.locals = L) (hp : (env.scope.kind == .class || (env.scope.kind == .module && env.locals != env.globals)) = false)
    (step : ∀ i v σ s₁ E', i < n → P i v → Inv i σ s₁.heap → St w s₀ L ((V σ).put x v) s₁ → KB (L :: own) s.heap s₁.heap →
      wpAny (model PG w) A (execs body env) (fun f s₂ => (f = .next ∨ f = .cont) ∧ ∃ σ', Inv (i + 1) σ' s₂.heap ∧ St w s₀ L (V σ') s₂ ∧ KB (L :: own) s₁.heap s₂.heap) E' s₁)
    (hQ : ∀ σ s₂, Inv n σ s₂.heap → St w s₀ L (V σ) s₂ → KB (L :: own) s.heap s₂.heap → R (.ok .next) s₂) :
    codeAny (model PG w) A (.forLoop (.Name x px) (.ref I) body [] env) R s' := by
  obtain ⟨Stt, W, hst, hlive⟩ := T.W
  have hIL : I ≠ L := Ne.symm (ne_of_fresh T.fr S.some)
  have hIown : I ∉ own := fun hm => (ne_of_fresh T.fr (hown I hm).2) rfl
  have hI0 : s₀.heap.get? I = none := by
    cases e : s₀.heap.get? I with
    | none => rfl
    | some o => have := Keeps.up S.ext _ _ e; rw [T.fr] at this; cases this
  refine codeAny_forLoop (fun k s₁ => ∃ i σ, Inv i σ s₁.heap ∧ St w s₀ L (V σ) s₁ ∧ KB (L :: own) s.heap s₁.heap ∧ Stt i s₁.heap ∧ i ≤ n ∧ k = n + 1 - i) ?_ (n + 1)
    ⟨0, σ₀, stab _ _ _ _ h0 (fun b _ o e => Keeps.up T.k _ _ e), (S.to T.k).sub hsub, KB.up (Keeps.up T.k), hst, Nat.zero_le _, rfl⟩
  rintro k s₁ ⟨i, σ, hI, S₁, K₁, st₁, hi, rfl⟩
  by_cases hlt : i < n
  · refine W.item i _ _ _ hlt st₁ fun v h' tk hv st' kk => ?_
    have S₂ : St w s₀ L (V σ) { s₁ with heap := h', toks := tk } := S₁.kb (W := [I]) (fun b o hb e => kk b o hb e) (fun b hb => by rw [List.mem_singleton.mp hb]; exact hI0) (fun hm => hIL (List.mem_singleton.mp hm).symm)
    have I₂ : Inv i σ h' := stab _ _ _ _ hI fun b hb o e => kk b o (fun hm => hIown (by rw [← List.mem_singleton.mp hm]; exact hb)) e
    have K₂ : KB (L :: own) s.heap h' := fun b o hb e => kk b o (fun hm => by rw [List.mem_singleton.mp hm] at e; rw [T.fr] at e; cases e) (K₁ b o hb e)
    refine wpAny_assign_Name (st_loc S₂ hF (fun s₃ S₃ _ k₃ => ?_) hL hxl hp)
    have I₃ : Inv i σ s₃.heap := stab _ _ _ _ I₂ fun b hb o e => k₃ b o (fun q => hLo (q ▸ hb)) e
    have K₃ : KB (L :: own) s.heap s₃.heap := K₂.trans (KB.but k₃ List.mem_cons_self)
    have fix : ∀ b ∈ I :: ax, b ∉ L :: own := fun b hb hm => by
      rcases List.mem_cons.mp hb with rfl | hb
      · rcases List.mem_cons.mp hm with q | hm
        · exact hIL q
        · exact hIown hm
      · rcases List.mem_cons.mp hm with q | hm
        · exact (hax b hb).1 q
        · exact (hax b hb).2 hm
    have st₃ : Stt (i + 1) s₃.heap := W.frame _ _ _ st' fun b hb o e => k₃ b o (fun q => fix b hb (by rw [q]; exact List.mem_cons_self)) e
    refine wpAny_mono (step i v σ s₃ _ hlt hv I₃ S₃ K₃) (fun f s₄ h₄ => ?_) fun _ _ e => e
    obtain ⟨hf, σ', I₄, S₄, K₄⟩ := h₄
    have z : ∃ m, m < n + 1 - i ∧ ∃ i σ, Inv i σ s₄.heap ∧ St w s₀ L (V σ) s₄ ∧ KB (L :: own) s.heap s₄.heap ∧ Stt i s₄.heap ∧ i ≤ n ∧ m = n + 1 - i :=
      ⟨n + 1 - (i + 1), by omega, i + 1, σ', I₄, S₄, K₃.trans K₄, W.frame _ _ _ st₃ fun b hb o e => K₄ b o (fix b hb) e, hlt, rfl⟩
    rcases hf with rfl | rfl
    · exact z
    · exact z
  · have hin : i = n := Nat.le_antisymm hi (Nat.not_lt.mp hlt)
    subst hin
    refine W.done _ _ _ st₁ fun h' tk kk => wpAny_execs_nil ?_
    refine hQ σ _ (stab _ _ _ _ hI fun b hb o e => kk b o (fun hm => hIown (by rw [← List.mem_singleton.mp hm]; exact hb)) e)
      (S₁.kb (W := [I]) (fun b o hb e => kk b o hb e) (fun b hb => by rw [List.mem_singleton.mp hb]; exact hI0) (fun hm => hIL (List.mem_singleton.mp hm).symm))
      (fun b o hb e => kk b o (fun hm => by rw [List.mem_singleton.mp hm] at e; rw [T.fr] at e; cases e) (K₁ b o hb e))

/-- the while loop; the number falls at each turn -/
theorem while_rule {σ : Type} {test : Expr} {body : List Stmt} {R : Result → Shared → Prop} (own : List Addr)
    (V : σ → Vars) (Inv : Nat → σ → Heap → Prop) (σ₀ : σ) (n₀ : Nat)
    (S : St w s₀ L vars s) (hsub : Sub (V σ₀) vars) (h0 : Inv n₀ σ₀ s.heap)
    (step : ∀ n σ s₁ E', Inv n σ s₁.heap → St w s₀ L (V σ) s₁ → KB (L :: own) s.heap s₁.heap →
      wpAny (model PG w) A (isTrue test env (eval test env)) (fun b s₂ =>
        if b = true then wpAny (model PG w) A (execs body env) (fun f s₃ => (f = .next ∨ f = .cont) ∧ ∃ n' σ', n' < n ∧ Inv n' σ' s₃.heap ∧ St w s₀ L (V σ') s₃ ∧ KB (L :: own) s₁.heap s₃.heap) E' s₂
        else (∀ s₃, s₃ = s₂ → R (.ok .next) s₃)) E' s₁) :
    codeAny (model PG w) A (.whileLoop test body [] env) R s := by
  refine codeAny_whileLoop (fun n s₁ => ∃ σ, Inv n σ s₁.heap ∧ St w s₀ L (V σ) s₁ ∧ KB (L :: own) s.heap s₁.heap) ?_ n₀ ⟨σ₀, h0, S.sub hsub, KB.refl _ _⟩
  rintro n s₁ ⟨σ, I₁, S₁, K₁⟩
  refine wpAny_mono (step n σ s₁ _ I₁ S₁ K₁) (fun b s₂ h₂ => ?_) fun _ _ e => e
  cases b with
  | false => exact wpAny_execs_nil (h₂ _ rfl)
  | true =>
    refine wpAny_mono h₂ (fun f s₃ h₃ => ?_) fun _ _ e => e
    obtain ⟨hf, n', σ', hn, I₃, S₃, K₃⟩ := h₃
    rcases hf with rfl | rfl
    · exact ⟨n', hn, σ', I₃, S₃, K₁.trans K₃⟩
    · exact ⟨n', hn, σ', I₃, S₃, K₁.trans K₃⟩

noncomputable def CompGoal (w : World) (A : Around) (env : Env) (scope : Scope) (cl : List (Str × Addr)) (e : Expr) (Q : Value → Shared → Prop) (E : Value → Shared → Prop) (it : Value) (s₂ : Shared) : Prop :=
  wpAny (model PG w) A (newList []) (fun acc s₃ => wpAny (model PG w) A (newFunctionEnv scope env.globals cl [] env.qual none .none (some env)) (fun cenv s₄ =>
    codeAny (model PG w) A (.compStart e 0 it acc { cenv with scope := relabel scope env }) (compPost (model PG w) A E none Q acc cenv.locals) s₄) E s₃) E s₂
theorem e_comp {elt iter : Expr} {x : Str} {px : Pos} {ifs : List Expr} {scope : Scope} {cl : List (Str × Addr)} {pos : Pos} {Q : Value → Shared → Prop}
    (h : wpAny (model PG w) A (eval iter env) (fun xv s₁ => wpAny (model PG w) A (pyIter xv) (CompGoal w A env scope cl (.ListComp elt [⟨.Name x px, iter, ifs, 0⟩] scope pos) Q E) E s₁) E s)
    (hclos : closureFor scope env = pure cl) (hkind : scope.kind = .function)
    (hnames : ∀ y ∈ scope.names, y.2 = .local → scope.names.lookup y.1 = some .local)
    (hs : ∀ x, foldedSetIterable iter env x = pure x) :
    wpAny (model PG w) A (eval (.ListComp elt [⟨.Name x px, iter, ifs, 0⟩] scope pos) env) Q E s := by
  rw [eval_ListComp]
  exact wpAny_comprehension_free (use := none) rfl hs hclos hkind hnames h

theorem comp_goR {elt iter : Expr} {x : Str} {px : Pos} {scope : Scope} {cl : List (Str × Addr)} {pos : Pos} {RR : Value → Addr → Result → Shared → Prop} (extra : List Addr) (hex : ∀ b ∈ extra, ∃ o, s.heap.get? b = some o) {ax : List Addr} {n : Nat} {P : Nat → Value → Prop} {I : Addr}
    (F : List Addr → Heap → Nat → Value → Prop) (hF : ∀ bad h h' i y, F bad h i y → KB bad h h' → F bad h' i y)
    (T : Itr w A s s' ax n P I) (hax : ∀ a ∈ ax, ∃ o, s.heap.get? a = some o) (B : Base w s.heap) (hsz : n ≤ 1048576)
    (hcell : ∀ y ∈ scope.names, y.2 ≠ .cell) (hkind : scope.kind = .function) (hx : scope.names.lookup x = some .local)
    (helt : ∀ C i v s₃ E', i < n → P i v → Keeps s s₃ → St w s₃ C [(x, v)] s₃ →
      wpAny (model PG w) A (eval elt (compEnvC scope cl C env)) (fun y s₄ => Keeps s₃ s₄ ∧ ∀ bad, (∀ b ∈ bad, (s.heap.get? b = none ∨ b ∈ extra) ∧ ∃ o, s₃.heap.get? b = some o) → F bad s₄.heap i y) E' s₃)
    (hRR : ∀ D C m (ys : List Value) s₃, s.heap.get? D = none → s.heap.get? C = none → D ≠ C → Keeps s s₃ → s₃.heap.Ns C m → s₃.heap.IsList D ys.toArray → ys.length = n → (∀ i y, ys[i]? = some y → F (I :: D :: C :: extra) s₃.heap i y) → KB [I] s₃.heap s₃.heap → RR (.ref D) C (.ok .next) s₃) :
    wpAny (model PG w) A (newList []) (fun acc s₃ => wpAny (model PG w) A (newFunctionEnv scope env.globals cl [] env.qual none .none (some env)) (fun cenv s₄ =>
      codeAny (model PG w) A (.compStart (.ListComp elt [⟨.Name x px, iter, [], 0⟩] scope pos) 0 (.ref I) acc { cenv with scope := relabel scope env }) (RR acc cenv.locals) s₄) E s₃) E s' := by
  obtain ⟨Stt, W, hst, hlive⟩ := T.W
  refine wpAny_newObj_type (wpAny_newFunctionEnv hcell (by intro y hy; simp at hy) (fun h₁ hns₁ hsb₁ => ?_) hkind)
  dsimp only at hns₁ hsb₁ ⊢
  generalize hH2 : s'.heap.push { cls := .type "list", dict := none, data := .seq ([] : List Value).toArray } = H2 at hns₁ hsb₁ ⊢
  have hC : H2.objs.size = s'.heap.objs.size + 1 := by rw [← hH2, Heap.size_push]
  have hDC : s'.heap.objs.size ≠ H2.objs.size := by rw [hC]; exact Nat.ne_of_lt (Nat.lt_succ_self _)
  have below : ∀ b, b < s'.heap.objs.size → b ≠ H2.objs.size ∧ b ≠ s'.heap.objs.size := fun b hb => ⟨by rw [hC]; exact Nat.ne_of_lt (Nat.lt_succ_of_lt hb), Nat.ne_of_lt hb⟩
  have old : ∀ b o, s'.heap.get? b = some o → h₁.get? b = some o := fun b o e => hsb₁.extBut b o (below b (Heap.lt_size e)).1 (Heap.get?_push_of_some _ (hH2 ▸ Heap.get?_push_of_some _ e))
  have hacc : h₁.PlainList s'.heap.objs.size #[] := ⟨_, hsb₁.extBut _ _ hDC (Heap.get?_push_of_some _ (hH2 ▸ Heap.get?_push_size _ rfl))⟩
  have fresh : ∀ a, s'.heap.objs.size ≤ a → s.heap.get? a = none := fun a ha => by
    cases e : s.heap.get? a with
    | none => rfl
    | some o' => exact absurd (Heap.lt_size (Keeps.up T.k _ _ e)) (Nat.not_lt.mpr ha)
  generalize hDD : s'.heap.objs.size = D at *
  generalize hCC : H2.objs.size = C at *
  have hD0 : s.heap.get? D = none := fresh D (Nat.le_refl _)
  have hC0 : s.heap.get? C = none := fresh C (by omega)
  have hI0 : s.heap.get? I = none := T.fr
  have hID : I ≠ D := by obtain ⟨o, e⟩ := T.ex; have := Heap.lt_size e; rw [← hDD]; exact Nat.ne_of_lt this
  have hIC : I ≠ C := by obtain ⟨o, e⟩ := T.ex; have := Heap.lt_size e; rw [hC, ← hDD]; exact Nat.ne_of_lt (Nat.lt_succ_of_lt this)
  have fpD : ∀ b ∈ I :: ax, b ≠ D ∧ b ≠ C := fun b hb => by
    rcases List.mem_cons.mp hb with rfl | hb
    · exact ⟨hID, hIC⟩
    · exact ⟨ne_of_fresh hD0 (hax b hb), ne_of_fresh hC0 (hax b hb)⟩
  have st1 : Stt 0 h₁ := W.frame _ _ _ hst fun b _ o e => old b o e
  obtain ⟨hs, tks, hse, kk0⟩ := T.k
  have loop : ∀ (s₃ : Shared), s₃ = { s' with heap := h₁, toks := s'.toks + ([] : List (Str × Value)).length } →
      codeAny (model PG w) A (.compLoop (.ListComp elt [⟨.Name x px, iter, [], 0⟩] scope pos) 0 (.ref I) (.ref D) (compEnvC scope cl C env)) (RR (.ref D) C) s₃ := by
    rintro s₃ rfl
    refine codeAny_compLoop_list (fun k s₁ => ∃ i ys m, Keeps s s₁ ∧ s₁.heap.PlainList D (ys : List Value).toArray ∧ s₁.heap.Ns C m ∧ Stt i s₁.heap ∧ (∃ o, s₁.heap.get? I = some o) ∧ ys.length = i ∧ i ≤ n ∧ k = n + 1 - i ∧ (∀ j y, ys[j]? = some y → F (I :: D :: C :: extra) s₁.heap j y)) ?_ (n + 1)
      ⟨0, [], _, ⟨h₁, _, by rw [hse], fun b o e => old b o (by rw [hse]; exact kk0 b o e)⟩, hacc, hns₁, st1, ⟨_, old _ _ T.ex.choose_spec⟩, rfl, Nat.zero_le _, rfl, fun j y hy => by simp at hy⟩
    rintro k s₁ ⟨i, ys, m, ks, ha, hn, st, hIe, hlen, hi, rfl, hFs⟩
    by_cases hlt : i < n
    · refine W.item i _ _ _ hlt st fun v h' tk hv st' kk => ?_
      have KI : KB [I] s₁.heap h' := fun b o hb e => kk b o hb e
      have hn' : h'.Ns C m := hn.at' fun o e => kk C o (fun q => hIC (List.mem_singleton.mp q).symm) e
      refine wpAny_assign_Name (wpAny_storeName_local (lookup_relabel_local hx) hn' (fun h₂ hn₂ hs₂ => ?_) (by simp [compEnvC, relabel, hkind]))
      have K2 : KB [I, C] s₁.heap h₂ := fun b o hb e => hs₂.extBut b o (fun q => hb (by rw [q]; exact List.mem_cons_of_mem _ List.mem_cons_self)) (kk b o (fun q => hb (by rw [List.mem_singleton.mp q]; simp)) e)
      have k2 : Keeps s { s₁ with heap := h₂, toks := tk + 1 } := by
        obtain ⟨hq, tq, rfl, kq⟩ := ks
        exact ⟨h₂, _, rfl, fun b o e => K2 b o (fun q => by
          rcases List.mem_cons.mp q with rfl | q
          · rw [hI0] at e; cases e
          · rw [List.mem_singleton.mp q, hC0] at e; cases e) (kq b o e)⟩
      have SC : St w { s₁ with heap := h₂, toks := tk + 1 } C [(x, v)] { s₁ with heap := h₂, toks := tk + 1 } :=
        ⟨Keeps.refl _, ⟨_, hn₂, fun p hp => by rw [List.mem_singleton.mp hp]; exact if_pos rfl⟩, B.up (Keeps.up k2)⟩
      have st2 : Stt (i + 1) h₂ := W.frame _ _ _ st' fun b hb o e => hs₂.extBut b o (fpD b hb).2 e
      have hI2 : ∃ o, h₂.get? I = some o := hlive _ _ st2
      have ha2 : h₂.PlainList D ys.toArray := ha.at fun o e => K2 D o (fun q => by
        rcases List.mem_cons.mp q with q | q
        · exact hID q.symm
        · exact hDC (List.mem_singleton.mp q)) e
      refine wpAny_mono (helt C i v _ _ hlt hv k2 SC) (fun y s₄ h₄ => ?_) fun _ _ e => e
      obtain ⟨k4, f4⟩ := h₄
      have F4 := f4 (I :: D :: C :: extra) (fun b hb => by
        simp only [List.mem_cons] at hb
        rcases hb with rfl | rfl | rfl | hb
        · exact ⟨.inl hI0, hI2⟩
        · exact ⟨.inl hD0, let ⟨_, e⟩ := ha2; ⟨_, e⟩⟩
        · exact ⟨.inl hC0, nsSome hn₂⟩
        · obtain ⟨o, e⟩ := hex b hb
          exact ⟨.inr hb, o, Keeps.up k2 _ _ e⟩)
      have K4 := Keeps.up k4
      refine wpAny_list_append_plain (ha2.at fun o e => K4 _ o e) (fun h₅ hl₅ hs₅ => ?_) (by rw [sizeLine16]; simp; omega)
      have K5 : KB [D] s₄.heap h₅ := fun b o hb e => hs₅.extBut b o (fun q => hb (by rw [q]; simp)) e
      have k4' := Keeps.trans k2 k4
      have hnf := (hn₂.keeps K4).sameBut hs₅ (Ne.symm hDC)
      refine ⟨n + 1 - (i + 1), by omega, i + 1, ys ++ [y], _, ?_, ?_, hnf, ?_, ?_, ?_, hlt, rfl, ?_⟩
      · obtain ⟨hq, tq, rfl, kq⟩ := k4'
        exact ⟨h₅, _, rfl, fun b o e => K5 b o (fun q => by rw [List.mem_singleton.mp q, hD0] at e; cases e) (kq b o e)⟩
      · simpa using hl₅
      · exact W.frame _ _ _ st2 fun b hb o e => K5 b o (fun q => (fpD b hb).1 (List.mem_singleton.mp q)) (K4 b o e)
      · obtain ⟨o, e⟩ := hI2
        exact ⟨o, K5 _ o (fun q => hID (List.mem_singleton.mp q)) (K4 _ o e)⟩
      · simp; omega
      · intro j u hj
        have kk5 : KB (I :: D :: C :: extra) s₁.heap h₅ := fun b o hb e => by
          simp only [List.mem_cons, not_or] at hb
          exact K5 b o (by simp; exact hb.2.1) (K4 b o (K2 b o (by simp; exact ⟨hb.1, hb.2.2.1⟩) e))
        rcases Nat.lt_trichotomy j ys.length with h | h | h
        · exact hF _ _ _ _ _ (hFs j u (by rwa [List.getElem?_append_left h] at hj)) kk5
        · subst h; simp at hj; subst hj
          rw [hlen]
          exact hF _ _ _ _ _ F4 fun b o hb e => K5 b o (fun q => hb (by rw [List.mem_singleton.mp q]; simp)) e
        · rw [List.getElem?_eq_none (by rw [List.length_append, List.length_singleton]; omega)] at hj; cases hj
    · have hin : i = n := Nat.le_antisymm hi (Nat.not_lt.mp hlt)
      refine W.done _ _ _ (hin ▸ st) fun h' tk kk => ?_
      have KF : KB (I :: D :: C :: extra) s₁.heap h' := fun b o hb e => kk b o (fun q => hb (by rw [List.mem_singleton.mp q]; exact List.mem_cons_self)) e
      obtain ⟨hq, tq, rfl, kq⟩ := ks
      refine hRR D C m ys _ hD0 hC0 hDC ⟨h', _, rfl, fun b o e => ?_⟩ (hn.at' fun o e => kk C o (fun q => hIC (List.mem_singleton.mp q).symm) e) ?_ (hlen.trans hin) (fun j y hy => hF _ _ _ _ _ (hFs j y hy) KF) (KB.refl _ _)
      · exact kk b o (fun q => by rw [List.mem_singleton.mp q, hI0] at e; cases e) (kq b o e)
      · exact (ha.at fun o e => kk D o (fun q => hID (List.mem_singleton.mp q).symm) e).isList
  exact codeAny_compStart_list (loop _ rfl) (W.self 0 _ _ _ st1 (loop _ rfl))

theorem comp_go {elt iter : Expr} {x : Str} {px : Pos} {scope : Scope} {cl : List (Str × Addr)} {pos : Pos} {Q : Value → Shared → Prop} {ax : List Addr} {n : Nat} {P : Nat → Value → Prop} {I : Addr}
    (F : List Addr → Heap → Nat → Value → Prop) (hF : ∀ bad h h' i y, F bad h i y → KB bad h h' → F bad h' i y) (hnil : ∀ bad h i y, F bad h i y → F [] h i y)
    (T : Itr w A s s' ax n P I) (hax : ∀ a ∈ ax, ∃ o, s.heap.get? a = some o) (B : Base w s.heap) (hsz : n ≤ 1048576)
    (hcell : ∀ y ∈ scope.names, y.2 ≠ .cell) (hkind : scope.kind = .function) (hx : scope.names.lookup x = some .local)
    (helt : ∀ C i v s₃ E', i < n → P i v → Keeps s s₃ → St w s₃ C [(x, v)] s₃ →
      wpAny (model PG w) A (eval elt (compEnvC scope cl C env)) (fun y s₄ => Keeps s₃ s₄ ∧ ∀ bad, (∀ b ∈ bad, s.heap.get? b = none ∧ ∃ o, s₃.heap.get? b = some o) → F bad s₄.heap i y) E' s₃)
    (hQ : ∀ D (ys : List Value) s₃, Keeps s s₃ → s.heap.get? D = none → s₃.heap.IsList D ys.toArray → ys.length = n → (∀ i y, ys[i]? = some y → F [] s₃.heap i y) → Q (.ref D) s₃) :
    CompGoal w A env scope cl (.ListComp elt [⟨.Name x px, iter, [], 0⟩] scope pos) Q E (.ref I) s' := by
  unfold CompGoal
  refine comp_goR (RR := fun acc C => compPost (model PG w) A E none Q acc C) [] (fun b hb => nomatch hb) F hF T hax B hsz hcell hkind hx (fun C i v s₃ E' a b c d => wpAny_mono (helt C i v s₃ E' a b c d) (fun _ _ h => ⟨h.1, fun bad hb => h.2 bad fun b m => ⟨(hb b m).1.elim id (fun x => nomatch x), (hb b m).2⟩⟩) fun _ _ e => e) ?_
  intro D C m ys s₃ hD hC hDC k hn hl hlen hFs _
  refine ⟨m, hn, fun h'' hs'' => ?_⟩
  have K5 : KB [C] s₃.heap h'' := fun b o hb e => hs''.extBut b o (fun q => hb (by rw [q]; exact List.mem_cons_self)) e
  obtain ⟨hq, tq, rfl, kq⟩ := k
  refine hQ D ys _ ⟨h'', _, rfl, fun b o e => ?_⟩ hD (lkb hl K5 (fun q => hDC (List.mem_singleton.mp q))) hlen fun j y hy => hnil _ _ _ _ (hF _ _ _ _ _ (hFs j y hy) fun b o hb e => K5 b o (fun q => hb (by rw [List.mem_singleton.mp q]; simp)) e)
  exact K5 b o (fun q => by rw [List.mem_singleton.mp q, hC] at e; cases e) (kq b o e)
end
end Mine
end
section
open PySem PySem.W PyProof.Rows PySem.Calls PySem.Builtin PySem.SeqAt
set_option maxRecDepth 100000
set_option maxHeartbeats 4000000
namespace Mine
open BF

theorem plSome {h : Heap} {a items} (x : h.PlainList a items) : ∃ o, h.get? a = some o := let ⟨_, e⟩ := x; ⟨_, e⟩
theorem KT {s s' : Shared} {a items} (k : Keeps s s') (x : s.heap.IsTuple a items) : s'.heap.IsTuple a items := tup x (Keeps.up k)
theorem KL {s s' : Shared} {a items} (k : Keeps s s') (x : s.heap.IsList a items) : s'.heap.IsList a items := lup x (Keeps.up k)
theorem KP {s s' : Shared} {a items} (k : Keeps s s') (x : s.heap.PlainList a items) : s'.heap.PlainList a items := x.at fun o e => Keeps.up k a o e
theorem DT {h h' : Heap} {a items} (k : Dsv h h') (x : h.IsTuple a items) : h'.IsTuple a items := k.isTuple x
theorem DL {h h' : Heap} {a items} (k : Dsv h h') (x : h.IsList a items) : h'.IsList a items := k.isList x
theorem DP {h h' : Heap} {a items} (k : Dsv h h') (x : h.PlainList a items) : h'.PlainList a items := let ⟨n, e⟩ := x; ⟨n, k _ _ e (fun _ _ q => by cases q)⟩

section
variable {M : Model} {A : Around} {E : Value → Shared → Prop} {s : Shared} {env : Env}
theorem gm_app {a : Addr} {vs : List Value} {pl : Sem Bool} {Q : Value × List Value → Shared → Prop} (hp : s.heap.PlainList a vs.toArray) (h : Q (.builtin "list.append", [.ref a]) s) :
    wpAny M A (getMethod (.ref a) (PySem.Str.ofString "append") pl) Q E s := by
  obtain ⟨n, e⟩ := hp
  exact getMethod_list_append e rfl rfl h
theorem gm_pop {a : Addr} {vs : List Value} {pl : Sem Bool} {Q : Value × List Value → Shared → Prop} (hp : s.heap.PlainList a vs.toArray) (h : Q (.builtin "list.pop", [.ref a]) s) :
    wpAny M A (getMethod (.ref a) (PySem.Str.ofString "pop") pl) Q E s := by
  obtain ⟨n, e⟩ := hp
  exact getMethod_builtin ⟨_, e, rfl⟩ PySem.F.plainAttrs_list PySem.F.slot_list_pop PySem.F.type_list_pop (fun a e' => by cases e'; exact ⟨_, e, rfl⟩) h
theorem n_plain {vs : List Value} {Q : Value → Shared → Prop} (hsz : vs.length ≤ 1048576) (h : ∀ a s', Keeps s s' → s.heap.get? a = none → s'.heap.PlainList a vs.toArray → Q (.ref a) s') : wpAny M A (newList vs) Q E s :=
  wpAny_newList (h _ _ (Keeps.push _ _) (get_none_size _) ⟨0, Heap.get?_push_size _ rfl⟩) (by rw [sizeLine16]; omega)
theorem e_bool {x : Bool} {k : Nat} {pos : Pos} {Q : Value → Shared → Prop} (h : Q (.bool x) s) : wpAny M A (eval (.Constant (.bool x) k pos) env) Q E s := fun _ _ _ => h
end

section
variable {prog : Program} {A : Around} {E : Value → Shared → Prop} {w w' : World} {s₀ s : Shared} {L : Addr} {vars : Vars} {env : Env} {Q : Value → Shared → Prop}
theorem St.fr {w : World} {s₀ s : Shared} {L : Addr} {vars : Vars} (S : St w s₀ L vars s) : ∃ m, Fr {} L s.heap m := by
  obtain ⟨m, hn, _⟩ := S.ns
  refine ⟨m, hn, fun b o e => ?_, Nat.zero_le _⟩
  have := Heap.lt_size e
  exact absurd this (Nat.not_lt_zero _)
theorem c_app {a : Addr} {vs : List Value} {v : Value} (hp : s.heap.PlainList a vs.toArray) (hsz : vs.length ≤ 1048576)
    (h : ∀ h', h'.PlainList a (vs ++ [v]).toArray → KeepBut a s.heap h' → Q .none { s with heap := h' }) : wpAny (model prog w) A (call (.builtin "list.append") [.ref a, v]) Q E s := by
  refine wpAny_list_append_plain hp (fun h' hl hs => h h' (by simpa using hl) fun b o n e => hs.extBut b o n e) (by rw [sizeLine16]; simp; omega)
theorem c_pop {a : Addr} {vs : List Value} {v : Value} (hp : s.heap.PlainList a (vs ++ [v]).toArray) (hsz : vs.length ≤ 1048576)
    (h : ∀ h', h'.PlainList a vs.toArray → KeepBut a s.heap h' → Q v { s with heap := h' }) : wpAny (model prog w) A (call (.builtin "list.pop") [.ref a]) Q E s := by
  obtain ⟨n, e⟩ := hp
  refine Copied.pop_at e (y := v) (by simp) (fun h' hs he => h h' ⟨n + 1, by simpa using he⟩ fun b o n e => hs.extBut b o n e) (by rw [sizeLine16]; simp; omega)
theorem u_len {a : Addr} {vs : List Value} (hl : s.heap.IsList a vs.toArray) (hsz : vs.length ≤ 1048576) (h : ∀ t s', Keeps s s' → Q (.int (vs.length : Int) t) s') :
    wpAny (model prog w) A (call (.builtin "len") [.ref a]) Q E s := by
  refine call_len_list hl (by simp; omega) ?_
  have := h (s.toks + 1) { s with toks := s.toks + 1 + 1 } (Keeps.tk _ _)
  simpa using this
theorem u_truthy {a : Addr} {vs : List Value} {Q : Bool → Shared → Prop} (hl : s.heap.IsList a vs.toArray) (hsz : vs.length ≤ 1048576) (h : ∀ s', Keeps s s' → Q (!vs.isEmpty) s') :
    wpAny (model prog w) A (truthy (.ref a)) Q E s := by
  refine wpAny_truthy_list hl (by simp; omega) ?_
  have := h { s with toks := s.toks + 1 + 1 } (Keeps.tk _ _)
  simpa using this
theorem u_add {a b : Addr} {vs ws : List Value} (hl : s.heap.IsList a vs.toArray) (hb : s.heap.IsList b ws.toArray) (hsz : vs.length + ws.length ≤ 1048576)
    (h : ∀ c s', Keeps s s' → s.heap.get? c = none → s'.heap.PlainList c (vs ++ ws).toArray → Q (.ref c) s') : wpAny (model prog w) A (binaryOp .Add (.ref a) (.ref b)) Q E s := by
  obtain ⟨⟨cls, dd, data, sl⟩, ho, hc, n, hd⟩ := id hl
  obtain ⟨⟨cls2, dd2, data2, sl2⟩, ho2, hc2, n2, hd2⟩ := id hb
  simp only at hc hd hc2 hd2
  subst hc hd hc2 hd2
  have e : vs.toArray ++ ws.toArray = (vs ++ ws).toArray := by simp
  refine concat_meets ⟨_, ho, rfl⟩ ⟨_, ho2, rfl⟩ noFill_list_add seq_list_add PySem.F.slot_list_add PySem.F.entry_list_add (PySem.F.args_list_add_2 _ _) (list_addW a b vs.toArray ws.toArray n n2 dd dd2 sl sl2 (by rw [sizeLine16]; simp; omega)) ⟨ho, ho2, ?_⟩
  rw [e]
  exact h _ _ (Keeps.mk' fun b o e => Heap.get?_push_of_some _ e) (get_none_size _) ⟨0, Heap.get?_push_size _ rfl⟩
theorem foldl_one {v : Value} : ∀ (n : Nat) (acc : List Value), List.foldl (fun x1 x2 => x1 ++ x2) acc.toArray (List.replicate n [v].toArray) = (acc ++ List.replicate n v).toArray
  | 0, acc => by simp
  | n + 1, acc => by
    have e : acc.toArray ++ [v].toArray = (acc ++ [v]).toArray := by simp
    rw [List.replicate_succ, List.foldl_cons, e, foldl_one n, List.replicate_succ, List.append_assoc]; rfl
theorem u_mul0 {a : Addr} {items : Array Value} {x : Int} {u : Tok} (hl : s.heap.PlainList a items) (hlo : -(2 ^ 63 : Int) ≤ x) (hhi : x < 2 ^ 63) (hsz : items.size * x.toNat ≤ 2 ^ 24)
    (h : ∀ c s', Keeps s s' → s.heap.get? c = none → s'.heap.PlainList c (List.foldl (fun x1 x2 => x1 ++ x2) #[] (List.replicate (if items.isEmpty = true then 0 else x.toNat) items)) → Q (.ref c) s') : wpAny (model prog w) A (binaryOp .Mult (.ref a) (.int x u)) Q E s := by
  obtain ⟨k, hk⟩ := hl
  exact wpAny_binaryOp_repeat_ref (T := "list") (U := "int") (by decide) ⟨_, hk, rfl⟩ (fun s' => typeIs_int s' x u) noFill_list_mul F.fills_int_mul F.slot_int_rmul repeat_list F.slot_int_index.lookup
    (call_meets F.slot_int_rmul (typeIs_int s x u) F.entry_int_rmul (F.args_int_rmul_2 _ _) (int___rmul___int_list x u a items k)
      ⟨hk, rfl, ⟨_, hk, rfl⟩, call_meets F.slot_list_mul ⟨_, hk, rfl⟩ F.entry_list_mul (F.args_list_mul_2 _ _)
        (AutoListH.list___mul___list_int_3 a items k x u (by simp [Builtin.List.listFitsIndex]; omega) (by omega) (by simp [Builtin.List.listTooLong, sizeLine]; omega))
        ⟨hk, h _ _ (Keeps.mk' fun b o e => Heap.get?_push_of_some _ e) (get_none_size _) ⟨0, Heap.get?_push_size _ rfl⟩⟩⟩)
theorem u_mul {a : Addr} {v : Value} {n : Nat} {u : Tok} (hl : s.heap.PlainList a [v].toArray) (hsz : n ≤ 1048576)
    (h : ∀ c s', Keeps s s' → s.heap.get? c = none → s'.heap.PlainList c (List.replicate n v).toArray → Q (.ref c) s') : wpAny (model prog w) A (binaryOp .Mult (.ref a) (.int (n : Int) u)) Q E s := by
  refine u_mul0 hl (by omega) (by omega) (by simp; omega) fun c s' k hn hp => ?_
  have e : List.foldl (fun x1 x2 => x1 ++ x2) #[] (List.replicate (if ([v].toArray).isEmpty = true then 0 else ((n : Int)).toNat) [v].toArray) = (List.replicate n v).toArray := by
    have := foldl_one (v := v) n []
    simpa using this
  rw [e] at hp
  exact h _ _ k hn hp
theorem u_min {a b : Nat} {t u : Tok} (hh : A.handled = none) (h : ∀ t s', Keeps s s' → Q (.int ((min a b : Nat) : Int) t) s') :
    wpAny (model prog w) A (call (.builtin "min") [.int (a : Int) t, .int (b : Int) u]) Q E s := by
  refine min_two_ints hh fun h' tk hk => ?_
  split
  · have e : min a b = b := by omega
    have := h u { s with heap := h', toks := tk } (Keeps.mk' hk)
    rwa [e] at this
  · have e : min a b = a := by omega
    have := h t { s with heap := h', toks := tk } (Keeps.mk' hk)
    rwa [e] at this
theorem u_max {a : Addr} {vs : List Value} {ns : List Int} (hh : A.handled = none) (hl : s.heap.IsList a vs.toArray) (hi : IntsAre vs ns) (hne : 0 < ns.length)
    (h : ∀ m t s', Keeps s s' → m ∈ ns → (∀ x ∈ ns, x ≤ m) → Q (.int m t) s') : wpAny (model prog w) A (call (.builtin "max") [.ref a]) Q E s := by
  obtain ⟨xs, e⟩ := hi.allInts.items
  have hns : ns = xs.toList.map (·.1) := by
    rw [← hi.numsOf, ← nums_intItems, ← e]
  have hsz : 0 < xs.size := by
    have h3 := hne; rw [hns, List.length_map, Array.length_toList] at h3; exact h3
  rw [e] at hl
  refine max_intList hh hl hsz fun v h' tk hv hk => ?_
  obtain ⟨t, rfl⟩ := intItems_at hv
  obtain ⟨h1, h2⟩ := argBest_gt (numAt xs) (xs.size - 1)
  refine h _ t _ (Keeps.mk' hk) ?_ fun a ha => ?_
  · rw [hns, numAt_eq]; exact getD_mem (by rw [List.length_map, Array.length_toList]; omega)
  · rw [hns] at ha
    obtain ⟨j, hj, rfl⟩ := mem_getD ha
    rw [List.length_map, Array.length_toList] at hj
    rw [← numAt_eq]; exact h2 j (by omega)
theorem u_range {n : Nat} {t : Tok} (h : ∀ r t1 t2 t3 s', Keeps s s' → IsRange s'.heap r 0 (n : Int) 1 t1 t2 t3 → Q (.ref r) s') : wpAny (model prog w) A (call (.type "range") [.int (n : Int) t]) Q E s :=
  call_range_1 (h _ _ _ _ _ (Keeps.mk' fun b o e => Heap.get?_push_of_some _ e) (IsRange.new ..))
theorem u_int {n : Int} {t : Tok} (h : Q (.int n t) s) : wpAny (model prog w) A (call (.type "int") [.int n t]) Q E s := call_int_int h
theorem u_neg {n : Int} {t : Tok} (h : ∀ t s', Keeps s s' → Q (.int (-n) t) s') : wpAny (model prog w) A (unaryOp .USub (.int n t)) Q E s := PyProof.Rows.neg_int (h _ _ (Keeps.tk _ _))

/-- ints of naturals -/
inductive NsL : List Nat → List Value → Prop
  | nil : NsL [] []
  | cons {c : Nat} {t : Tok} {cs : List Nat} {vs : List Value} : NsL cs vs → NsL (c :: cs) (.int (c : Int) t :: vs)
theorem NsL.ints {cs : List Nat} {vs : List Value} (h : NsL cs vs) : IntsAre vs (cs.map fun (c : Nat) => (c : Int)) := by
  induction h with
  | nil => exact .nil
  | cons _ ih => exact .cons _ _ ih
theorem NsL.len {cs : List Nat} {vs : List Value} (h : NsL cs vs) : vs.length = cs.length := by
  induction h with
  | nil => rfl
  | cons _ ih => simp [ih]
theorem u_bytes {a : Addr} {vs : List Value} {cs : List Nat} (hh : A.handled = none) (hl : s.heap.IsList a vs.toArray) (hv : NsL cs vs) (o : Oct cs) (hsz : cs.length ≤ 1048576)
    (h : ∀ t s', Keeps s s' → Q (tx true cs t) s') : wpAny (model prog w) A (call (.type "bytes") [.ref a]) Q E s := by
  refine call_bytes_ints hl hv.ints (fun n hn => ?_) (by rw [hv.len, sizeLine16]; omega) hh fun h' t k hk => ?_
  · obtain ⟨c, hc, rfl⟩ := List.mem_map.mp hn
    have := o c hc
    omega
  · have e : byteArr (cs.map fun (c : Nat) => (c : Int)) = (cs.map UInt8.ofNat).toArray := by
      unfold byteArr
      rw [List.map_map]
      congr 1
    rw [e]
    exact h t _ (Keeps.mk' hk)
/-- texts of one sign each -/
theorem u_join0 {a : Addr} {ps : List (List Nat)} {vs : List Value} {t : Tok} (hl : s.heap.IsList a vs.toArray) (hv : TxL false ps vs) (hsz : (ps.map List.length).sum ≤ 1048576) (h : ∀ t' s', Keeps s s' → Q (tx false ps.flatten t') s') :
    wpAny (model prog w) A (call (.builtin (mJn false)) [tx false [] t, .ref a]) Q E s := by
  refine join_list (x := sOf []) hl (ys := ps.map sOf) (by simpa using strsAre_of hv) ?_ (fun t' n => ?_)
  · rw [List.map_map, List.length_map, sOf_len]
    have : (ps.map ((fun x : PySem.Str => x.length) ∘ sOf)) = ps.map List.length := by
      apply List.map_congr_left; intro p _; exact sOf_len p
    rw [this]; simp; omega
  · have e : Txt.join (sOf []) (ps.map sOf) = sOf ps.flatten := by
      have : Txt.join (sOf []) (ps.map sOf) = PySem.Str.join (sOf []) (ps.map sOf) := StrLaws.glued_eq_join _ _
      rw [this]
      clear this hv hl hsz h
      induction ps with
      | nil => rfl
      | cons x r ih =>
        cases r with
        | nil => show sOf x = _; simp
        | cons y r =>
          have e2 : PySem.Str.join (sOf []) ((x :: y :: r).map sOf) = (sOf x ++ sOf []) ++ PySem.Str.join (sOf []) ((y :: r).map sOf) := rfl
          rw [e2, ih]
          show (⟨(x.toArray ++ #[]) ++ ((y :: r).flatten).toArray⟩ : PySem.Str) = ⟨(x ++ (y :: r).flatten).toArray⟩
          simp
    rw [e]; exact h _ _ (Keeps.tk _ _)
theorem u_eqT {a : Addr} {items : Array Value} {cs : List Nat} {u : Tok} (hl : s.heap.IsTuple a items) (hu : A.units < cLine) (h : Q (.bool false) s) : wpAny (model prog w) A (compareOp .Eq (.ref a) (tx false cs u)) Q E s :=
  RcAt.tuple_str (sOf cs) u hl hu prog w E Q h
theorem u_neT {a : Addr} {items : Array Value} {cs : List Nat} {u : Tok} (hl : s.heap.IsTuple a items) (hu : A.units < cLine) (h : Q (.bool true) s) : wpAny (model prog w) A (compareOp .NotEq (.ref a) (tx false cs u)) Q E s :=
  RcNeAt.tuple_str (sOf cs) u hl hu prog w E Q h
theorem u_eqL {a b : Addr} {cs : List (List Nat)} {vs ws : List Value} (hu : A.units + 8 < 9900) (hl : s.heap.IsList a vs.toArray) (hb : s.heap.IsList b ws.toArray) (hv : TxL false cs vs) (hw : TxL false cs ws) (h : Q (.bool true) s) :
    wpAny (model prog w) A (compareOp .Eq (.ref a) (.ref b)) Q E s := by
  have e1 := hv.len
  have e2 := hw.len
  refine eq_listAt (e := fun _ => true) hl hb (by simp; omega) (by unfold cLine; omega) (fun j h1 h2 => ?_) ?_
  · simp only [List.size_toArray] at h1 h2
    have hj : j < cs.length := by omega
    obtain ⟨t, ht⟩ := hv.get (i := j) (List.getElem?_eq_getElem hj)
    obtain ⟨u, hu⟩ := hw.get (i := j) (List.getElem?_eq_getElem hj)
    have k1 : vs.toArray[j] = tx false cs[j] t := by
      have := List.getElem?_eq_getElem h1; rw [ht] at this; simpa using (Option.some.inj this).symm
    have k2 : ws.toArray[j] = tx false cs[j] u := by
      have := List.getElem?_eq_getElem h2; rw [hu] at this; simpa using (Option.some.inj this).symm
    rw [k1, k2]
    have := EqAt.str_str (A := A.in1) (s := s) (sOf cs[j]) t (sOf cs[j]) u
    rw [beq_self_eq_true] at this
    exact this
  · have e : (List.range vs.toArray.size).all (fun _ => true) = true := by rw [List.all_eq_true]; intro _ _; rfl
    rw [e]; exact h
end
section
variable {A : Around} {E : Value → Shared → Prop} {w w' : World} {s₀ s : Shared} {L : Addr} {vars : Vars} {env : Env}
theorem keep_of_fn {K : Frag} {f : Addr} (hf : fnIn K f = true) : keepIn K (.ref f) = true := by
  unfold fnIn at hf
  split at hf
  · rename_i c d fd sl ho
    unfold keepIn
    simp only [ho]
  · cases hf
theorem cf_star {pos p : Pos} {f : Addr} {e : Expr} {Q : Value → Shared → Prop} (S : St w s₀ L vars s) (hf : fnIn (KK w.params) f = true)
    (h : wpAny (model PG w) A (eval e env) (fun v s₁ => ∃ a vs, v = .ref a ∧ Keeps s₀ s₁ ∧ s₁.heap.IsList a vs.toArray ∧ vs.length ≤ 1048576 ∧ ∀ s₂, Keeps s₁ s₂ → wpAny (model PG w) A (call (.ref f) vs) Q E s₂) E s)
    (he : starEach [.Starred e p] env = [(true, eval e env)]) :
    wpAny (model PG w) A (callWith pos (.ref f) [] (backTo pos (starEach [.Starred e p] env)) []) Q E s := by
  refine callWith_S (K := KK w.params) (h₀ := s.heap) S.bs.k (keep_of_fn hf) (wpAny_mono h (fun v s₁ h₁ => ?_) fun _ _ x => x) he
  obtain ⟨a, vs, rfl, k, hl, hsz, h₂⟩ := h₁
  have B1 := S.base.up (Keeps.up k)
  obtain ⟨o, ho, hc, n, hd⟩ := id hl
  unfold StarOf notIterableAtAll
  refine wpAny_bind (wpAny_specialOf (⟨o, ho, hc⟩ : s₁.TypeIs (.ref a) "list") PySem.F.slot_list_iter.lookup (wpAny_pure ⟨rfl, ?_⟩))
  refine wpAny_collect_seq a (.inl rfl) ho hc hd (fun h' hk => ?_) (by rw [sizeLine16]; simp; omega)
  refine ⟨B1.k.keeps hk, ?_⟩
  have := h₂ { s₁ with heap := h' } ⟨h', s₁.toks, rfl, hk⟩
  simpa using this
end
end Mine
end
section
open PySem PySem.W PyProof.Rows PySem.Calls PySem.Builtin PySem.SeqAt
set_option maxRecDepth 100000
set_option maxHeartbeats 4000000
namespace Mine
open BF

theorem fmod_nat (a : Nat) {b : Nat} (hb : 0 < b) : ((a : Int)).fmod (b : Int) = ((a % b : Nat) : Int) := by
  rw [Int.fmod_eq_emod_of_nonneg _ (by omega)]; rfl
theorem fdiv_nat (a : Nat) {b : Nat} (hb : 0 < b) : ((a : Int)).fdiv (b : Int) = ((a / b : Nat) : Int) := by
  rw [Int.fdiv_eq_ediv_of_nonneg _ (by omega)]; rfl
section
variable {prog : Program} {w : World} {A : Around} {E : Value → Shared → Prop} {s : Shared} {a : Nat} {t u : Tok} {Q : Value → Shared → Prop}
theorem i_mod6 (h : ∀ t' s', Keeps s s' → Q (.int ((a % 6 : Nat) : Int) t') s') : wpAny (model prog w) A (binaryOp .Mod (.int (a : Int) t) (.int 6 u)) Q E s := i_mod (by decide) (by rw [show (6 : Int) = ((6 : Nat) : Int) from rfl, fmod_nat a (by decide)]; exact h)
theorem i_mod95 (h : ∀ t' s', Keeps s s' → Q (.int ((a % 95 : Nat) : Int) t') s') : wpAny (model prog w) A (binaryOp .Mod (.int (a : Int) t) (.int 95 u)) Q E s := i_mod (by decide) (by rw [show (95 : Int) = ((95 : Nat) : Int) from rfl, fmod_nat a (by decide)]; exact h)
theorem i_mod8 (h : ∀ t' s', Keeps s s' → Q (.int ((a % 8 : Nat) : Int) t') s') : wpAny (model prog w) A (binaryOp .Mod (.int (a : Int) t) (.int 8 u)) Q E s := i_mod (by decide) (by rw [show (8 : Int) = ((8 : Nat) : Int) from rfl, fmod_nat a (by decide)]; exact h)
theorem i_div6 (h : ∀ t' s', Keeps s s' → Q (.int ((a / 6 : Nat) : Int) t') s') : wpAny (model prog w) A (binaryOp .FloorDiv (.int (a : Int) t) (.int 6 u)) Q E s := i_div (by decide) (by decide) (by rw [show (6 : Int) = ((6 : Nat) : Int) from rfl, fdiv_nat a (by decide)]; exact h)
theorem i_div8 (h : ∀ t' s', Keeps s s' → Q (.int ((a / 8 : Nat) : Int) t') s') : wpAny (model prog w) A (binaryOp .FloorDiv (.int (a : Int) t) (.int 8 u)) Q E s := i_div (by decide) (by decide) (by rw [show (8 : Int) = ((8 : Nat) : Int) from rfl, fdiv_nat a (by decide)]; exact h)
theorem i_add32 (h : ∀ t' s', Keeps s s' → Q (.int ((32 + a : Nat) : Int) t') s') : wpAny (model prog w) A (binaryOp .Add (.int 32 t) (.int (a : Int) u)) Q E s := i_add (by rw [show (32 : Int) + (a : Int) = ((32 + a : Nat) : Int) by omega]; exact h)
theorem i_addN (h : ∀ t' s', Keeps s s' → Q (.int ((a + 1 : Nat) : Int) t') s') : wpAny (model prog w) A (binaryOp .Add (.int (a : Int) t) (.int 1 u)) Q E s := i_add (by rw [show (a : Int) + 1 = ((a + 1 : Nat) : Int) by omega]; exact h)
theorem i_iaddN (h : ∀ t' s', Keeps s s' → Q (.int ((a + 1 : Nat) : Int) t') s') : wpAny (model prog w) A (inplaceOp .Add (.int (a : Int) t) (.int 1 u)) Q E s := i_iadd (by rw [show (a : Int) + 1 = ((a + 1 : Nat) : Int) by omega]; exact h)
end

noncomputable def Sign (c : Nat) : Prop := 32 ≤ c ∧ c ≤ 126
noncomputable def GoodN (n : Nat) (cs : List Nat) : Prop := cs ≠ [] ∧ cs.length ≤ n ∧ ∀ c ∈ cs, Sign c
theorem GoodN.app {n m : Nat} {a b : List Nat} (x : GoodN n a) (y : GoodN m b) : GoodN (n + m) (a ++ b) :=
  ⟨by simp [x.1], by rw [List.length_append]; have := x.2.1; have := y.2.1; omega, fun c hc => (List.mem_append.mp hc).elim (x.2.2 c) (y.2.2 c)⟩
theorem GoodN.mono {n m : Nat} {a : List Nat} (x : GoodN n a) (h : n ≤ m) : GoodN m a := ⟨x.1, Nat.le_trans x.2.1 h, x.2.2⟩
/-- the six tokens -/
noncomputable def toks6 (c : Nat) (t1 t2 t3 t4 t5 t6 : Tok) : List Value := [tx false [47] t1, tx false [46] t2, tx false [97] t3, tx false [46, 46] t4, tx false [47, 46, 46] t5, tx false [c] t6]
theorem lt6 : ∀ m : Nat, m < 6 → m = 0 ∨ m = 1 ∨ m = 2 ∨ m = 3 ∨ m = 4 ∨ m = 5 := by decide
theorem lt8 : ∀ m : Nat, m < 8 → m = 0 ∨ m = 1 ∨ m = 2 ∨ m = 3 ∨ m = 4 ∨ m = 5 ∨ m = 6 ∨ m = 7 := by decide
theorem lt_sz {m : Nat} (h : m < 8) : (m : Int) < 1048576 := by omega
theorem tok_good {c : Nat} (hc : Sign c) {t1 t2 t3 t4 t5 t6 : Tok} {i : Nat} (hi : i < 6) : ∃ cs t, (toks6 c t1 t2 t3 t4 t5 t6)[i]? = some (tx false cs t) ∧ GoodN 3 cs := by
  have g : ∀ cs : List Nat, cs ≠ [] → cs.length ≤ 3 → (∀ c ∈ cs, Sign c) → GoodN 3 cs := fun cs a b c => ⟨a, b, c⟩
  unfold Sign at hc
  rcases lt6 i hi with rfl | rfl | rfl | rfl | rfl | rfl
  · (repeat ((with_reducible refine q5 _ _ ?_); clear q5 Q5)); exact ⟨_, _, rfl, g _ (by simp) (by simp) (by simp [Sign])⟩
  · (repeat ((with_reducible refine q5 _ _ ?_); clear q5 Q5)); exact ⟨_, _, rfl, g _ (by simp) (by simp) (by simp [Sign])⟩
  · (repeat ((with_reducible refine q5 _ _ ?_); clear q5 Q5)); exact ⟨_, _, rfl, g _ (by simp) (by simp) (by simp [Sign])⟩
  · (repeat ((with_reducible refine q5 _ _ ?_); clear q5 Q5)); exact ⟨_, _, rfl, g _ (by simp) (by simp) (by simp [Sign])⟩
  · (repeat ((with_reducible refine q5 _ _ ?_); clear q5 Q5)); exact ⟨_, _, rfl, g _ (by simp) (by simp) (by simp [Sign])⟩
  · (repeat ((with_reducible refine q5 _ _ ?_); clear q5 Q5)); exact ⟨_, _, rfl, g _ (by simp) (by simp) (by simp [Sign]; exact hc)⟩
section
variable {A : Around} {E : Value → Shared → Prop} {w : World} {s : Shared}
theorem c_inner {d : Nat} {t : Tok} {Q : Value → Shared → Prop} (R : Room A 1) (B : Base w s.heap) (h : ∀ cs t' s', GoodN 12 cs → Keeps s s' → Q (tx false cs t') s') :
    wpAny (model PG w) A (call (.ref 178) [.int (d : Int) t]) Q E s := by
  (refine' enterF (binds := [(Str.ofString "number", .int (d : Int) t)]) (by assumption) (by assumption) ?ho ?hcd ?hb ?hl ?hc ?hnd ?_ ?hco ?hgen ?hk; (case ho => k_is); (case hcd => k_is); (case hb => exact rfl); (case hl => exact locs rfl); (case hc => decide); (case hnd => exact by simp); (case hco => exact rfl); (case hgen => exact rfl); (case hk => exact rfl); intro L s₁ hF S R')
  ((repeat ((with_reducible refine q5 _ _ ?_); clear q5 Q5)); (repeat ((with_reducible refine q5 _ _ ?_); clear q5 Q5)); (with_reducible refine x_consG fun Q5 q5 => ?_); (with_reducible refine wpAny_Assign_Name ?_ ?hs9); (case hs9 => exact rfl); (with_reducible refine Tuple_ ?_); (with_reducible refine args_cons ?_ ?he9); (case he9 => exact rfl); (with_reducible refine l_sl ?_);  intro t s' k9; replace S := St.to S k9; skip; clear k9; (with_reducible refine args_cons ?_ ?he9); (case he9 => exact rfl); (with_reducible refine l_d ?_);  intro t s' k9; replace S := St.to S k9; skip; clear k9; (with_reducible refine args_cons ?_ ?he9); (case he9 => exact rfl); (with_reducible refine l_a ?_);  intro t s' k9; replace S := St.to S k9; skip; clear k9; (with_reducible refine args_cons ?_ ?he9); (case he9 => exact rfl); (with_reducible refine l_dd ?_);  intro t s' k9; replace S := St.to S k9; skip; clear k9; (with_reducible refine args_cons ?_ ?he9); (case he9 => exact rfl); (with_reducible refine l_sdd ?_);  intro t s' k9; replace S := St.to S k9; skip; clear k9; (with_reducible refine args_cons ?_ ?he9); (case he9 => exact rfl); (with_reducible refine Call_ ?_ ?he9); (case he9 => exact rfl); (with_reducible refine' e_blt (St.bs S) ?e9 ?hv9 ?_ ?hn9 ?hb9 ?hg9 ?hk9 ?hx9 ?hd9); (case hb9 => exact rfl); (case hg9 => exact rfl); (case hk9 => exact rfl); (case hx9 => exact rfl); (case hd9 => decide); (case hn9 => decide); (case e9 => k_is); (case hv9 => with_reducible first | exact bb_isinstance | exact bb_bytes | exact bb_str | exact bb_type | exact bb_issubclass | exact bb_len | exact bb_chr | exact bb_ord | exact bb_int | exact bb_range | exact bb_max | exact bb_min); (with_reducible refine callWith_builtin1 ?_ ?he9 ?hp9); (case he9 => exact rfl); (case hp9 => exact rfl); (with_reducible refine args_cons ?_ ?he9); (case he9 => exact rfl); (with_reducible refine wpAny_BinOp ?_); (with_reducible refine e_int ?_);  intro t s' k9; replace S := St.to S k9; skip; clear k9; (with_reducible refine wpAny_BinOp ?_); (with_reducible refine' e_loc S ?hv9 ?_ ?hL9 ?hk9 ?hl9 ?hd9); (case hL9 => exact rfl); (case hk9 => exact rfl); (case hl9 => exact rfl); (case hd9 => decide); (case hv9 => exact rfl); (with_reducible refine e_int ?_);  intro t s' k9; replace S := St.to S k9; skip; clear k9; (with_reducible refine i_mod95 ?_);  intro t s' k9; replace S := St.to S k9; skip; clear k9; (with_reducible refine i_add32 ?_);  intro t s' k9; replace S := St.to S k9; skip; clear k9; (with_reducible refine args_nil ?_); (repeat ((with_reducible refine q5 _ _ ?_); clear q5 Q5)))
  (refine i_chr (by omega) (by omega) fun t' s' k9 => ?_); replace S := St.to S k9; skip; clear k9
  ((repeat ((with_reducible refine q5 _ _ ?_); clear q5 Q5)); (with_reducible refine args_nil ?_); (repeat ((with_reducible refine q5 _ _ ?_); clear q5 Q5)))
  have hsg : Sign (32 + d % 95) := ⟨by omega, by omega⟩
  (refine n_tup (by first | exact Nat.le_of_ble_eq_true rfl | simp) fun a s' k9 hn ht => ?_); have naL := ne_of_fresh hn S.some; replace S := St.to S k9; skip; clear k9
  
  ((repeat ((with_reducible refine q5 _ _ ?_); clear q5 Q5)); (with_reducible refine st_loc S hF ?_ ?hL9 ?hl9 ?hp9); (case hL9 => exact rfl); (case hl9 => exact rfl); (case hp9 => exact rfl); clear S; intro s' S d9 kk9; replace ht := DT d9 ht; clear d9 kk9; (repeat ((with_reducible refine q5 _ _ ?_); clear q5 Q5)); (with_reducible refine x_consG fun Q5 q5 => ?_); (with_reducible refine wpAny_Assign_Name ?_ ?hs9); (case hs9 => exact rfl); (with_reducible refine Subscript_ ?_); (with_reducible refine' e_loc S ?hv9 ?_ ?hL9 ?hk9 ?hl9 ?hd9); (case hL9 => exact rfl); (case hk9 => exact rfl); (case hl9 => exact rfl); (case hd9 => decide); (case hv9 => exact rfl); (with_reducible refine wpAny_BinOp ?_); (with_reducible refine' e_loc S ?hv9 ?_ ?hL9 ?hk9 ?hl9 ?hd9); (case hL9 => exact rfl); (case hk9 => exact rfl); (case hl9 => exact rfl); (case hd9 => decide); (case hv9 => exact rfl); (with_reducible refine e_int ?_);  intro t s' k9; replace S := St.to S k9; replace ht := KT k9 ht; clear k9; (with_reducible refine i_mod6 ?_);  intro t s' k9; replace S := St.to S k9; replace ht := KT k9 ht; clear k9; (repeat ((with_reducible refine q5 _ _ ?_); clear q5 Q5)))
  obtain ⟨cs1, t1, e1, g1⟩ := tok_good hsg (i := d % 6) (by omega)
  refine sub_ti ht (by first | exact Int.natCast_nonneg _ | omega) (by omega) (by rw [Int.toNat_natCast]; exact e1) ?_ rfl
  ((repeat ((with_reducible refine q5 _ _ ?_); clear q5 Q5)); (with_reducible refine st_loc S hF ?_ ?hL9 ?hl9 ?hp9); (case hL9 => exact rfl); (case hl9 => exact rfl); (case hp9 => exact rfl); clear S; intro s' S d9 kk9; replace ht := DT d9 ht; clear d9 kk9; (repeat ((with_reducible refine q5 _ _ ?_); clear q5 Q5)); (with_reducible refine x_consG fun Q5 q5 => ?_); (with_reducible refine wpAny_Assign_Name ?_ ?hs9); (case hs9 => exact rfl); (with_reducible refine wpAny_BinOp ?_); (with_reducible refine' e_loc S ?hv9 ?_ ?hL9 ?hk9 ?hl9 ?hd9); (case hL9 => exact rfl); (case hk9 => exact rfl); (case hl9 => exact rfl); (case hd9 => decide); (case hv9 => exact rfl); (with_reducible refine e_int ?_);  intro t s' k9; replace S := St.to S k9; replace ht := KT k9 ht; clear k9; (with_reducible refine i_div6 ?_);  intro t s' k9; replace S := St.to S k9; replace ht := KT k9 ht; clear k9; (with_reducible refine st_loc S hF ?_ ?hL9 ?hl9 ?hp9); (case hL9 => exact rfl); (case hl9 => exact rfl); (case hp9 => exact rfl); clear S; intro s' S d9 kk9; replace ht := DT d9 ht; clear d9 kk9; (repeat ((with_reducible refine q5 _ _ ?_); clear q5 Q5)); (with_reducible refine x_consG fun Q5 q5 => ?_); (with_reducible refine wpAny_For ?_ ?hs9); (case hs9 => intro _; exact rfl); (with_reducible refine Call_ ?_ ?he9); (case he9 => exact rfl); (with_reducible refine' e_blt (St.bs S) ?e9 ?hv9 ?_ ?hn9 ?hb9 ?hg9 ?hk9 ?hx9 ?hd9); (case hb9 => exact rfl); (case hg9 => exact rfl); (case hk9 => exact rfl); (case hx9 => exact rfl); (case hd9 => decide); (case hn9 => decide); (case e9 => k_is); (case hv9 => with_reducible first | exact bb_isinstance | exact bb_bytes | exact bb_str | exact bb_type | exact bb_issubclass | exact bb_len | exact bb_chr | exact bb_ord | exact bb_int | exact bb_range | exact bb_max | exact bb_min); (with_reducible refine PyProof.Rows.callWith_type1 ?_ ?he9 ?hp9); (case he9 => exact rfl); (case hp9 => exact rfl); (with_reducible refine args_cons ?_ ?he9); (case he9 => exact rfl); (with_reducible refine e_int ?_);  intro t s' k9; replace S := St.to S k9; replace ht := KT k9 ht; clear k9; (with_reducible refine args_nil ?_); (repeat ((with_reducible refine q5 _ _ ?_); clear q5 Q5)))
  refine u_range (n := 3) fun r t1 t2 t3 s' k9 hr => ?_
  replace S := St.to S k9; replace ht := KT k9 ht; clear k9
  refine it_range hr (by omega) R'.hh fun I s9 T => ?_
  refine for_rule (σ := (List Nat × Tok) × (Nat × Tok)) [] (fun σ => [(Str.ofString "tokens", .ref a), (Str.ofString "spelled", tx false σ.1.1 σ.1.2), (Str.ofString "rest", .int (σ.2.1 : Int) σ.2.2)])
    (fun i σ _ => GoodN (3 + 3 * i) σ.1.1) ((cs1, _), (d / 6, _)) T S hF (by simp) (by simp) (by simp) (fun _ _ _ _ h _ => h) ⟨rfl, rfl, rfl, trivial⟩ g1 rfl rfl rfl ?_ ?_
  · rintro i v ⟨⟨cs, tc⟩, ⟨r, tr⟩⟩ s₁ E' hi ⟨tv, rfl⟩ g S K
    refine gen fun Q8 q8 => ?_
    dsimp only at S g
    replace ht := tkb ht K (by simp; exact Ne.symm naL)
    have kb := KB.refl [L] s₁.heap
    
    ((repeat ((with_reducible refine q5 _ _ ?_); clear q5 Q5)); (repeat ((with_reducible refine q5 _ _ ?_); clear q5 Q5)); (with_reducible refine x_consG fun Q5 q5 => ?_); (with_reducible refine wpAny_If ?_); (with_reducible refine isTrue_plain ?_ ?he9); (case he9 => exact rfl); (with_reducible refine' e_loc S ?hv9 ?_ ?hL9 ?hk9 ?hl9 ?hd9); (case hL9 => exact rfl); (case hk9 => exact rfl); (case hl9 => exact rfl); (case hd9 => decide); (case hv9 => exact rfl); (with_reducible refine P.truthy_int ?_); (repeat ((with_reducible refine q5 _ _ ?_); clear q5 Q5)))
    refine ite_b (fun hb => ?_) (fun hb => ?_)
    · ((repeat ((with_reducible refine q5 _ _ ?_); clear q5 Q5)); (repeat ((with_reducible refine q5 _ _ ?_); clear q5 Q5)); (with_reducible refine x_consG fun Q5 q5 => ?_); (with_reducible refine wpAny_AugAssign_Name ?_); (with_reducible refine' n_loc S ?hv9 ?_ ?hL9 ?hk9 ?hl9); (case hL9 => exact rfl); (case hk9 => exact rfl); (case hl9 => exact rfl); (case hv9 => exact rfl); (with_reducible refine Subscript_ ?_); (with_reducible refine' e_loc S ?hv9 ?_ ?hL9 ?hk9 ?hl9 ?hd9); (case hL9 => exact rfl); (case hk9 => exact rfl); (case hl9 => exact rfl); (case hd9 => decide); (case hv9 => exact rfl); (with_reducible refine wpAny_BinOp ?_); (with_reducible refine' e_loc S ?hv9 ?_ ?hL9 ?hk9 ?hl9 ?hd9); (case hL9 => exact rfl); (case hk9 => exact rfl); (case hl9 => exact rfl); (case hd9 => decide); (case hv9 => exact rfl); (with_reducible refine e_int ?_);  intro t s' k9; replace S := St.to S k9; replace ht := KT k9 ht; replace kb := kb.keeps k9; clear k9; (with_reducible refine i_mod6 ?_);  intro t s' k9; replace S := St.to S k9; replace ht := KT k9 ht; replace kb := kb.keeps k9; clear k9; (repeat ((with_reducible refine q5 _ _ ?_); clear q5 Q5)))
      obtain ⟨cs2, t2, e2, g2⟩ := tok_good hsg (i := r % 6) (by omega)
      refine sub_ti ht (by first | exact Int.natCast_nonneg _ | omega) (by omega) (by rw [Int.toNat_natCast]; exact e2) ?_ rfl
      have := g.2.1
      have := g2.2.1
      ((repeat ((with_reducible refine q5 _ _ ?_); clear q5 Q5)); (with_reducible refine iadd_tx ?hsz9 ?_); (case hsz9 => first | assumption | omega | (simp only [List.length_append, List.length_cons, List.length_nil]; omega)); intro t s' k9; replace S := St.to S k9; replace ht := KT k9 ht; replace kb := kb.keeps k9; clear k9; (with_reducible refine st_loc S hF ?_ ?hL9 ?hl9 ?hp9); (case hL9 => exact rfl); (case hl9 => exact rfl); (case hp9 => exact rfl); clear S; intro s' S d9 kk9; replace ht := DT d9 ht; replace kb := kb.trans (KB.but kk9 List.mem_cons_self); clear d9 kk9; (repeat ((with_reducible refine q5 _ _ ?_); clear q5 Q5)); (with_reducible refine wpAny_execs_nil ?_); (repeat ((with_reducible refine q5 _ _ ?_); clear q5 Q5)); (with_reducible refine x_consG fun Q5 q5 => ?_); (with_reducible refine wpAny_Assign_Name ?_ ?hs9); (case hs9 => exact rfl); (with_reducible refine wpAny_BinOp ?_); (with_reducible refine' e_loc S ?hv9 ?_ ?hL9 ?hk9 ?hl9 ?hd9); (case hL9 => exact rfl); (case hk9 => exact rfl); (case hl9 => exact rfl); (case hd9 => decide); (case hv9 => exact rfl); (with_reducible refine e_int ?_);  intro t s' k9; replace S := St.to S k9; replace ht := KT k9 ht; replace kb := kb.keeps k9; clear k9; (with_reducible refine i_div6 ?_);  intro t s' k9; replace S := St.to S k9; replace ht := KT k9 ht; replace kb := kb.keeps k9; clear k9; (with_reducible refine st_loc S hF ?_ ?hL9 ?hl9 ?hp9); (case hL9 => exact rfl); (case hl9 => exact rfl); (case hp9 => exact rfl); clear S; intro s' S d9 kk9; replace ht := DT d9 ht; replace kb := kb.trans (KB.but kk9 List.mem_cons_self); clear d9 kk9; (repeat ((with_reducible refine q5 _ _ ?_); clear q5 Q5)); (with_reducible refine wpAny_execs_nil ?_); (repeat ((with_reducible refine q5 _ _ ?_); clear q5 Q5)))
      (repeat ((with_reducible refine q5 _ _ ?_); clear q5 Q5)); exact q8 _ _ ⟨.inl rfl, ((_, _), (_, _)), (g.app g2).mono (by omega), S.sub ⟨rfl, rfl, rfl, trivial⟩, kb⟩
    · ((repeat ((with_reducible refine q5 _ _ ?_); clear q5 Q5)); (repeat ((with_reducible refine q5 _ _ ?_); clear q5 Q5)); (with_reducible refine wpAny_execs_nil ?_); (repeat ((with_reducible refine q5 _ _ ?_); clear q5 Q5)); (with_reducible refine x_consG fun Q5 q5 => ?_); (with_reducible refine wpAny_Assign_Name ?_ ?hs9); (case hs9 => exact rfl); (with_reducible refine wpAny_BinOp ?_); (with_reducible refine' e_loc S ?hv9 ?_ ?hL9 ?hk9 ?hl9 ?hd9); (case hL9 => exact rfl); (case hk9 => exact rfl); (case hl9 => exact rfl); (case hd9 => decide); (case hv9 => exact rfl); (with_reducible refine e_int ?_);  intro t s' k9; replace S := St.to S k9; replace ht := KT k9 ht; replace kb := kb.keeps k9; clear k9; (with_reducible refine i_div6 ?_);  intro t s' k9; replace S := St.to S k9; replace ht := KT k9 ht; replace kb := kb.keeps k9; clear k9; (with_reducible refine st_loc S hF ?_ ?hL9 ?hl9 ?hp9); (case hL9 => exact rfl); (case hl9 => exact rfl); (case hp9 => exact rfl); clear S; intro s' S d9 kk9; replace ht := DT d9 ht; replace kb := kb.trans (KB.but kk9 List.mem_cons_self); clear d9 kk9; (repeat ((with_reducible refine q5 _ _ ?_); clear q5 Q5)); (with_reducible refine wpAny_execs_nil ?_); (repeat ((with_reducible refine q5 _ _ ?_); clear q5 Q5)))
      (repeat ((with_reducible refine q5 _ _ ?_); clear q5 Q5)); exact q8 _ _ ⟨.inl rfl, ((_, _), (_, _)), g.mono (by omega), S.sub ⟨rfl, rfl, rfl, trivial⟩, kb⟩
    
  · rintro ⟨⟨cs, tc⟩, ⟨r, tr⟩⟩ s₁ g S K
    dsimp only at S g ⊢
    ((repeat ((with_reducible refine q5 _ _ ?_); clear q5 Q5)); (repeat ((with_reducible refine q5 _ _ ?_); clear q5 Q5)); (with_reducible refine x_consG fun Q5 q5 => ?_); (with_reducible refine wpAny_Return_some ?_); (with_reducible refine' e_loc S ?hv9 ?_ ?hL9 ?hk9 ?hl9 ?hd9); (case hL9 => exact rfl); (case hk9 => exact rfl); (case hl9 => exact rfl); (case hd9 => decide); (case hv9 => exact rfl); (repeat ((with_reducible refine q5 _ _ ?_); clear q5 Q5)))
    (repeat ((with_reducible refine q5 _ _ ?_); clear q5 Q5)); exact h _ _ _ (g.mono (by omega)) (St.ext S)
  
end
end Mine
end
section
open PySem PySem.W PyProof.Rows PySem.Calls PySem.Builtin PySem.SeqAt
set_option maxRecDepth 100000
set_option maxHeartbeats 4000000
namespace Mine
open BF

/-- a piece: true a hidden path, false a text -/
abbrev Pc := Bool × List Nat
noncomputable def PcV (bad : List Addr) (h : Heap) : Pc → Value → Prop
  | (false, cs), v => ∃ t, v = tx false cs t
  | (true, cs), v => ∃ g t, v = .ref g ∧ g ∉ bad ∧ h.IsTuple g [tx false cs t].toArray
inductive PcL (bad : List Addr) (h : Heap) : List Pc → List Value → Prop
  | nil : PcL bad h [] []
  | cons {p v ps vs} : PcV bad h p v → PcL bad h ps vs → PcL bad h (p :: ps) (v :: vs)
theorem PcV.kb {bad : List Addr} {h h' : Heap} {p : Pc} {v : Value} (x : PcV bad h p v) (k : KB bad h h') : PcV bad h' p v := by
  obtain ⟨b, cs⟩ := p
  cases b
  · exact x
  · obtain ⟨g, t, rfl, hg, ht⟩ := x
    (repeat ((with_reducible refine q5 _ _ ?_); clear q5 Q5)); exact ⟨g, t, rfl, hg, tkb ht k hg⟩
theorem PcV.nob {bad : List Addr} {h : Heap} {p : Pc} {v : Value} (x : PcV bad h p v) : PcV [] h p v := by
  obtain ⟨b, cs⟩ := p
  cases b
  · exact x
  · obtain ⟨g, t, rfl, hg, ht⟩ := x
    (repeat ((with_reducible refine q5 _ _ ?_); clear q5 Q5)); exact ⟨g, t, rfl, by simp, ht⟩
theorem PcV.up {h h' : Heap} {p : Pc} {v : Value} (x : PcV [] h p v) (k : Up h h') : PcV [] h' p v := x.kb (KB.up k)
theorem PcL.map {bad bad' : List Addr} {h h' : Heap} {ps : List Pc} {vs : List Value} (x : PcL bad h ps vs) (f : ∀ p v, PcV bad h p v → PcV bad' h' p v) : PcL bad' h' ps vs := by
  induction x with
  | nil => exact .nil
  | cons a _ ih => exact .cons (f _ _ a) ih
theorem PcL.kb {bad : List Addr} {h h' : Heap} {ps : List Pc} {vs : List Value} (x : PcL bad h ps vs) (k : KB bad h h') : PcL bad h' ps vs := x.map fun _ _ a => a.kb k
theorem PcL.nob {bad : List Addr} {h : Heap} {ps : List Pc} {vs : List Value} (x : PcL bad h ps vs) : PcL [] h ps vs := x.map fun _ _ a => a.nob
theorem PcL.up {h h' : Heap} {ps : List Pc} {vs : List Value} (x : PcL [] h ps vs) (k : Up h h') : PcL [] h' ps vs := x.map fun _ _ a => a.up k
theorem PcL.len {bad : List Addr} {h : Heap} {ps : List Pc} {vs : List Value} (x : PcL bad h ps vs) : vs.length = ps.length := by
  induction x with
  | nil => rfl
  | cons _ _ ih => simp [ih]
theorem PcL.get {bad : List Addr} {h : Heap} {ps : List Pc} {vs : List Value} (x : PcL bad h ps vs) : ∀ {i : Nat} {v : Value}, vs[i]? = some v → ∃ p, ps[i]? = some p ∧ PcV bad h p v := by
  induction x with
  | nil => intro i v e; simp at e
  | cons a _ ih =>
    intro i v e
    cases i with
    | zero => simp at e; subst e; exact ⟨_, rfl, a⟩
    | succ i => rw [List.getElem?_cons_succ] at e; obtain ⟨p, hp, q⟩ := ih e; exact ⟨p, by rw [List.getElem?_cons_succ]; exact hp, q⟩
theorem PcL.app {bad : List Addr} {h : Heap} {ps qs : List Pc} {vs us : List Value} (x : PcL bad h ps vs) (y : PcL bad h qs us) : PcL bad h (ps ++ qs) (vs ++ us) := by
  induction x with
  | nil => exact y
  | cons a _ ih => exact .cons a ih
theorem PcL.rev {bad : List Addr} {h : Heap} {ps : List Pc} {vs : List Value} (x : PcL bad h ps vs) : PcL bad h ps.reverse vs.reverse := by
  induction x with
  | nil => exact .nil
  | cons a _ ih => rw [List.reverse_cons, List.reverse_cons]; exact ih.app (.cons a .nil)
theorem PcL.ofTx {bad : List Addr} {h : Heap} {cs : List (List Nat)} {vs : List Value} (x : TxL false cs vs) : PcL bad h (cs.map fun c => (false, c)) vs := by
  induction x with
  | nil => exact .nil
  | cons _ ih => exact .cons ⟨_, rfl⟩ ih
noncomputable def GoodPc (p : Pc) : Prop := (p.1 = true ∧ GoodN 12 p.2) ∨ (p.1 = false ∧ (p.2 = [] ∨ p.2 = [46] ∨ p.2 = [46, 46]))
noncomputable def GoodRow (row : List Pc) : Prop := row ≠ [] ∧ row.length ≤ 5 ∧ ∀ p ∈ row, GoodPc p
theorem fresh_of {s s' : Shared} {a : Addr} (k : Keeps s s') (h : s'.heap.get? a = none) : s.heap.get? a = none := by
  cases e : s.heap.get? a with
  | none => rfl
  | some o => have := Keeps.up k _ _ e; rw [h] at this; cases this
theorem pg_of {s s' : Shared} {g : Addr} {cs : List Nat} {t : Tok} (h0 : s.heap.get? g = none) (hg : s'.heap.IsTuple g [tx false cs t].toArray) (bad : List Addr) (hb : ∀ b ∈ bad, ∃ o, s.heap.get? b = some o) : PcV bad s'.heap (true, cs) (.ref g) :=
  ⟨g, t, rfl, fun hm => (by obtain ⟨o, e⟩ := hb _ hm; rw [h0] at e; cases e), hg⟩
section
variable {A : Around} {E : Value → Shared → Prop} {w : World} {s : Shared}
theorem c_part {d : Nat} {t : Tok} {Q : Value → Shared → Prop} (R : Room A 2) (B : Base w s.heap)
    (h : ∀ row a vs s', GoodRow row → Keeps s s' → s.heap.get? a = none → s'.heap.IsList a vs.toArray → (∀ bad, (∀ b ∈ bad, ∃ o, s.heap.get? b = some o) → PcL bad s'.heap row vs) → Q (.ref a) s') :
    wpAny (model PG w) A (call (.ref 185) [.int (d : Int) t]) Q E s := by
  (refine' enterF (binds := [(Str.ofString "draw", .int (d : Int) t)]) (by assumption) (by assumption) ?ho ?hcd ?hb ?hl ?hc ?hnd ?_ ?hco ?hgen ?hk; (case ho => k_is); (case hcd => k_is); (case hb => exact rfl); (case hl => exact locs rfl); (case hc => decide); (case hnd => exact by simp); (case hco => exact rfl); (case hgen => exact rfl); (case hk => exact rfl); intro L s₁ hF S R')
  ((repeat ((with_reducible refine q5 _ _ ?_); clear q5 Q5)); (repeat ((with_reducible refine q5 _ _ ?_); clear q5 Q5)); (with_reducible refine x_consG fun Q5 q5 => ?_); (with_reducible refine wpAny_Assign_Name ?_ ?hs9); (case hs9 => exact rfl); (with_reducible refine Tuple_ ?_); (with_reducible refine args_cons ?_ ?he9); (case he9 => exact rfl); (with_reducible refine Call_ ?_ ?he9); (case he9 => exact rfl); (with_reducible refine' e_glob (St.bs S) ?e9 ?_ ?hg9 ?hk9 ?hx9 ?hd9); (case hg9 => exact rfl); (case hk9 => exact rfl); (case hx9 => exact rfl); (case hd9 => decide); (case e9 => k_is); (with_reducible refine cf S ?hf9 ?_ ?he9); (case he9 => exact rfl); (case hf9 => k_is); (with_reducible refine args_cons ?_ ?he9); (case he9 => exact rfl); (with_reducible refine wpAny_BinOp ?_); (with_reducible refine' e_loc S ?hv9 ?_ ?hL9 ?hk9 ?hl9 ?hd9); (case hL9 => exact rfl); (case hk9 => exact rfl); (case hl9 => exact rfl); (case hd9 => decide); (case hv9 => exact rfl); (with_reducible refine e_int ?_);  intro t s' k9; replace S := St.to S k9; skip; clear k9; (with_reducible refine i_div8 ?_);  intro t s' k9; replace S := St.to S k9; skip; clear k9; (with_reducible refine args_nil ?_); (with_reducible refine And.intro (Keeps.up (St.ext S)) ?_); (repeat ((with_reducible refine q5 _ _ ?_); clear q5 Q5)))
  refine c_inner R' (St.bs S) fun cs t' s' gd k9 => ?_
  replace S := St.to S k9; clear k9
  ((repeat ((with_reducible refine q5 _ _ ?_); clear q5 Q5)); (with_reducible refine args_nil ?_); (repeat ((with_reducible refine q5 _ _ ?_); clear q5 Q5)))
  have S0 := St.ext S
  (refine n_tup (by first | exact Nat.le_of_ble_eq_true rfl | simp) fun a s' k9 hn ht => ?_); have naL := ne_of_fresh hn S.some; replace S := St.to S k9; skip; clear k9
  have hg := ht; clear ht
  have hg0 : s.heap.get? a = none := fresh_of S0 hn
  clear hn naL S0
  
  (have dv9 := S.dv0; ((repeat ((with_reducible refine q5 _ _ ?_); clear q5 Q5)); (with_reducible refine st_loc S hF ?_ ?hL9 ?hl9 ?hp9); (case hL9 => exact rfl); (case hl9 => exact rfl); (case hp9 => exact rfl); clear S; intro s' S d9 kk9; replace dv9 := dv9.trans d9; clear d9 kk9; (repeat ((with_reducible refine q5 _ _ ?_); clear q5 Q5)); (with_reducible refine x_consG fun Q5 q5 => ?_); (with_reducible refine wpAny_Return_some ?_; refine Subscript_ ?_; refine Tuple_ ?_); (with_reducible refine args_cons ?_ ?he9); (case he9 => exact rfl); (with_reducible refine List_ ?_); (with_reducible refine args_cons ?_ ?he9); (case he9 => exact rfl); (with_reducible refine' e_loc S ?hv9 ?_ ?hL9 ?hk9 ?hl9 ?hd9); (case hL9 => exact rfl); (case hk9 => exact rfl); (case hl9 => exact rfl); (case hd9 => decide); (case hv9 => exact rfl); (with_reducible refine args_nil ?_); (repeat ((with_reducible refine q5 _ _ ?_); clear q5 Q5))); (have d9 := dv9; replace hg := DT d9 hg; clear d9 dv9))
  have S0 := St.ext S
  (refine n_plain (by first | exact Nat.le_of_ble_eq_true rfl | simp) fun a s' k9 hn hl => ?_); have naL := ne_of_fresh hn S.some; replace S := St.to S k9; replace hg := KT k9 hg; clear k9
  have hl1 := hl; have hn1 := fresh_of S0 hn; clear hl hn naL S0
  
  
  (have kv9 := S.kv0; ((repeat ((with_reducible refine q5 _ _ ?_); clear q5 Q5)); (with_reducible refine args_cons ?_ ?he9); (case he9 => exact rfl); (with_reducible refine List_ ?_); (with_reducible refine args_cons ?_ ?he9); (case he9 => exact rfl); (with_reducible refine' e_loc S ?hv9 ?_ ?hL9 ?hk9 ?hl9 ?hd9); (case hL9 => exact rfl); (case hk9 => exact rfl); (case hl9 => exact rfl); (case hd9 => decide); (case hv9 => exact rfl); (with_reducible refine args_nil ?_); (repeat ((with_reducible refine q5 _ _ ?_); clear q5 Q5))); (have k9 := kv9; replace hg := KT k9 hg; (try replace hl1 := KP k9 hl1); (try replace hl2 := KP k9 hl2); (try replace hl3 := KP k9 hl3); (try replace hl4 := KP k9 hl4); (try replace hl5 := KP k9 hl5); (try replace hl6 := KP k9 hl6); (try replace hl7 := KP k9 hl7); (try replace hl8 := KP k9 hl8); clear k9 kv9))
  have S0 := St.ext S
  (refine n_plain (by first | exact Nat.le_of_ble_eq_true rfl | simp) fun a s' k9 hn hl => ?_); have naL := ne_of_fresh hn S.some; replace S := St.to S k9; replace hg := KT k9 hg; (try replace hl1 := KP k9 hl1); (try replace hl2 := KP k9 hl2); (try replace hl3 := KP k9 hl3); (try replace hl4 := KP k9 hl4); (try replace hl5 := KP k9 hl5); (try replace hl6 := KP k9 hl6); (try replace hl7 := KP k9 hl7); (try replace hl8 := KP k9 hl8); clear k9
  have hl2 := hl; have hn2 := fresh_of S0 hn; clear hl hn naL S0
  (have kv9 := S.kv0; ((repeat ((with_reducible refine q5 _ _ ?_); clear q5 Q5)); (with_reducible refine args_cons ?_ ?he9); (case he9 => exact rfl); (with_reducible refine List_ ?_); (with_reducible refine args_cons ?_ ?he9); (case he9 => exact rfl); (with_reducible refine l_dd ?_);  intro t s' k9; replace S := St.to S k9; replace kv9 := Keeps.trans kv9 k9; clear k9; (with_reducible refine args_nil ?_); (repeat ((with_reducible refine q5 _ _ ?_); clear q5 Q5))); (have k9 := kv9; replace hg := KT k9 hg; (try replace hl1 := KP k9 hl1); (try replace hl2 := KP k9 hl2); (try replace hl3 := KP k9 hl3); (try replace hl4 := KP k9 hl4); (try replace hl5 := KP k9 hl5); (try replace hl6 := KP k9 hl6); (try replace hl7 := KP k9 hl7); (try replace hl8 := KP k9 hl8); clear k9 kv9))
  have S0 := St.ext S
  (refine n_plain (by first | exact Nat.le_of_ble_eq_true rfl | simp) fun a s' k9 hn hl => ?_); have naL := ne_of_fresh hn S.some; replace S := St.to S k9; replace hg := KT k9 hg; (try replace hl1 := KP k9 hl1); (try replace hl2 := KP k9 hl2); (try replace hl3 := KP k9 hl3); (try replace hl4 := KP k9 hl4); (try replace hl5 := KP k9 hl5); (try replace hl6 := KP k9 hl6); (try replace hl7 := KP k9 hl7); (try replace hl8 := KP k9 hl8); clear k9
  have hl3 := hl; have hn3 := fresh_of S0 hn; clear hl hn naL S0
  (have kv9 := S.kv0; ((repeat ((with_reducible refine q5 _ _ ?_); clear q5 Q5)); (with_reducible refine args_cons ?_ ?he9); (case he9 => exact rfl); (with_reducible refine List_ ?_); (with_reducible refine args_cons ?_ ?he9); (case he9 => exact rfl); (with_reducible refine l_0 ?_);  intro t s' k9; replace S := St.to S k9; replace kv9 := Keeps.trans kv9 k9; clear k9; (with_reducible refine args_cons ?_ ?he9); (case he9 => exact rfl); (with_reducible refine' e_loc S ?hv9 ?_ ?hL9 ?hk9 ?hl9 ?hd9); (case hL9 => exact rfl); (case hk9 => exact rfl); (case hl9 => exact rfl); (case hd9 => decide); (case hv9 => exact rfl); (with_reducible refine args_nil ?_); (repeat ((with_reducible refine q5 _ _ ?_); clear q5 Q5))); (have k9 := kv9; replace hg := KT k9 hg; (try replace hl1 := KP k9 hl1); (try replace hl2 := KP k9 hl2); (try replace hl3 := KP k9 hl3); (try replace hl4 := KP k9 hl4); (try replace hl5 := KP k9 hl5); (try replace hl6 := KP k9 hl6); (try replace hl7 := KP k9 hl7); (try replace hl8 := KP k9 hl8); clear k9 kv9))
  have S0 := St.ext S
  (refine n_plain (by first | exact Nat.le_of_ble_eq_true rfl | simp) fun a s' k9 hn hl => ?_); have naL := ne_of_fresh hn S.some; replace S := St.to S k9; replace hg := KT k9 hg; (try replace hl1 := KP k9 hl1); (try replace hl2 := KP k9 hl2); (try replace hl3 := KP k9 hl3); (try replace hl4 := KP k9 hl4); (try replace hl5 := KP k9 hl5); (try replace hl6 := KP k9 hl6); (try replace hl7 := KP k9 hl7); (try replace hl8 := KP k9 hl8); clear k9
  have hl4 := hl; have hn4 := fresh_of S0 hn; clear hl hn naL S0
  (have kv9 := S.kv0; ((repeat ((with_reducible refine q5 _ _ ?_); clear q5 Q5)); (with_reducible refine args_cons ?_ ?he9); (case he9 => exact rfl); (with_reducible refine List_ ?_); (with_reducible refine args_cons ?_ ?he9); (case he9 => exact rfl); (with_reducible refine' e_loc S ?hv9 ?_ ?hL9 ?hk9 ?hl9 ?hd9); (case hL9 => exact rfl); (case hk9 => exact rfl); (case hl9 => exact rfl); (case hd9 => decide); (case hv9 => exact rfl); (with_reducible refine args_cons ?_ ?he9); (case he9 => exact rfl); (with_reducible refine l_d ?_);  intro t s' k9; replace S := St.to S k9; replace kv9 := Keeps.trans kv9 k9; clear k9; (with_reducible refine args_cons ?_ ?he9); (case he9 => exact rfl); (with_reducible refine' e_loc S ?hv9 ?_ ?hL9 ?hk9 ?hl9 ?hd9); (case hL9 => exact rfl); (case hk9 => exact rfl); (case hl9 => exact rfl); (case hd9 => decide); (case hv9 => exact rfl); (with_reducible refine args_cons ?_ ?he9); (case he9 => exact rfl); (with_reducible refine l_dd ?_);  intro t s' k9; replace S := St.to S k9; replace kv9 := Keeps.trans kv9 k9; clear k9; (with_reducible refine args_cons ?_ ?he9); (case he9 => exact rfl); (with_reducible refine l_0 ?_);  intro t s' k9; replace S := St.to S k9; replace kv9 := Keeps.trans kv9 k9; clear k9; (with_reducible refine args_nil ?_); (repeat ((with_reducible refine q5 _ _ ?_); clear q5 Q5))); (have k9 := kv9; replace hg := KT k9 hg; (try replace hl1 := KP k9 hl1); (try replace hl2 := KP k9 hl2); (try replace hl3 := KP k9 hl3); (try replace hl4 := KP k9 hl4); (try replace hl5 := KP k9 hl5); (try replace hl6 := KP k9 hl6); (try replace hl7 := KP k9 hl7); (try replace hl8 := KP k9 hl8); clear k9 kv9))
  have S0 := St.ext S
  (refine n_plain (by first | exact Nat.le_of_ble_eq_true rfl | simp) fun a s' k9 hn hl => ?_); have naL := ne_of_fresh hn S.some; replace S := St.to S k9; replace hg := KT k9 hg; (try replace hl1 := KP k9 hl1); (try replace hl2 := KP k9 hl2); (try replace hl3 := KP k9 hl3); (try replace hl4 := KP k9 hl4); (try replace hl5 := KP k9 hl5); (try replace hl6 := KP k9 hl6); (try replace hl7 := KP k9 hl7); (try replace hl8 := KP k9 hl8); clear k9
  have hl5 := hl; have hn5 := fresh_of S0 hn; clear hl hn naL S0
  (have kv9 := S.kv0; ((repeat ((with_reducible refine q5 _ _ ?_); clear q5 Q5)); (with_reducible refine args_cons ?_ ?he9); (case he9 => exact rfl); (with_reducible refine List_ ?_); (with_reducible refine args_cons ?_ ?he9); (case he9 => exact rfl); (with_reducible refine l_0 ?_);  intro t s' k9; replace S := St.to S k9; replace kv9 := Keeps.trans kv9 k9; clear k9; (with_reducible refine args_cons ?_ ?he9); (case he9 => exact rfl); (with_reducible refine l_0 ?_);  intro t s' k9; replace S := St.to S k9; replace kv9 := Keeps.trans kv9 k9; clear k9; (with_reducible refine args_cons ?_ ?he9); (case he9 => exact rfl); (with_reducible refine' e_loc S ?hv9 ?_ ?hL9 ?hk9 ?hl9 ?hd9); (case hL9 => exact rfl); (case hk9 => exact rfl); (case hl9 => exact rfl); (case hd9 => decide); (case hv9 => exact rfl); (with_reducible refine args_nil ?_); (repeat ((with_reducible refine q5 _ _ ?_); clear q5 Q5))); (have k9 := kv9; replace hg := KT k9 hg; (try replace hl1 := KP k9 hl1); (try replace hl2 := KP k9 hl2); (try replace hl3 := KP k9 hl3); (try replace hl4 := KP k9 hl4); (try replace hl5 := KP k9 hl5); (try replace hl6 := KP k9 hl6); (try replace hl7 := KP k9 hl7); (try replace hl8 := KP k9 hl8); clear k9 kv9))
  have S0 := St.ext S
  (refine n_plain (by first | exact Nat.le_of_ble_eq_true rfl | simp) fun a s' k9 hn hl => ?_); have naL := ne_of_fresh hn S.some; replace S := St.to S k9; replace hg := KT k9 hg; (try replace hl1 := KP k9 hl1); (try replace hl2 := KP k9 hl2); (try replace hl3 := KP k9 hl3); (try replace hl4 := KP k9 hl4); (try replace hl5 := KP k9 hl5); (try replace hl6 := KP k9 hl6); (try replace hl7 := KP k9 hl7); (try replace hl8 := KP k9 hl8); clear k9
  have hl6 := hl; have hn6 := fresh_of S0 hn; clear hl hn naL S0
  (have kv9 := S.kv0; ((repeat ((with_reducible refine q5 _ _ ?_); clear q5 Q5)); (with_reducible refine args_cons ?_ ?he9); (case he9 => exact rfl); (with_reducible refine List_ ?_); (with_reducible refine args_cons ?_ ?he9); (case he9 => exact rfl); (with_reducible refine l_dd ?_);  intro t s' k9; replace S := St.to S k9; replace kv9 := Keeps.trans kv9 k9; clear k9; (with_reducible refine args_cons ?_ ?he9); (case he9 => exact rfl); (with_reducible refine l_0 ?_);  intro t s' k9; replace S := St.to S k9; replace kv9 := Keeps.trans kv9 k9; clear k9; (with_reducible refine args_cons ?_ ?he9); (case he9 => exact rfl); (with_reducible refine' e_loc S ?hv9 ?_ ?hL9 ?hk9 ?hl9 ?hd9); (case hL9 => exact rfl); (case hk9 => exact rfl); (case hl9 => exact rfl); (case hd9 => decide); (case hv9 => exact rfl); (with_reducible refine args_nil ?_); (repeat ((with_reducible refine q5 _ _ ?_); clear q5 Q5))); (have k9 := kv9; replace hg := KT k9 hg; (try replace hl1 := KP k9 hl1); (try replace hl2 := KP k9 hl2); (try replace hl3 := KP k9 hl3); (try replace hl4 := KP k9 hl4); (try replace hl5 := KP k9 hl5); (try replace hl6 := KP k9 hl6); (try replace hl7 := KP k9 hl7); (try replace hl8 := KP k9 hl8); clear k9 kv9))
  have S0 := St.ext S
  (refine n_plain (by first | exact Nat.le_of_ble_eq_true rfl | simp) fun a s' k9 hn hl => ?_); have naL := ne_of_fresh hn S.some; replace S := St.to S k9; replace hg := KT k9 hg; (try replace hl1 := KP k9 hl1); (try replace hl2 := KP k9 hl2); (try replace hl3 := KP k9 hl3); (try replace hl4 := KP k9 hl4); (try replace hl5 := KP k9 hl5); (try replace hl6 := KP k9 hl6); (try replace hl7 := KP k9 hl7); (try replace hl8 := KP k9 hl8); clear k9
  have hl7 := hl; have hn7 := fresh_of S0 hn; clear hl hn naL S0
  (have kv9 := S.kv0; ((repeat ((with_reducible refine q5 _ _ ?_); clear q5 Q5)); (with_reducible refine args_cons ?_ ?he9); (case he9 => exact rfl); (with_reducible refine List_ ?_); (with_reducible refine args_cons ?_ ?he9); (case he9 => exact rfl); (with_reducible refine l_d ?_);  intro t s' k9; replace S := St.to S k9; replace kv9 := Keeps.trans kv9 k9; clear k9; (with_reducible refine args_cons ?_ ?he9); (case he9 => exact rfl); (with_reducible refine' e_loc S ?hv9 ?_ ?hL9 ?hk9 ?hl9 ?hd9); (case hL9 => exact rfl); (case hk9 => exact rfl); (case hl9 => exact rfl); (case hd9 => decide); (case hv9 => exact rfl); (with_reducible refine args_cons ?_ ?he9); (case he9 => exact rfl); (with_reducible refine l_dd ?_);  intro t s' k9; replace S := St.to S k9; replace kv9 := Keeps.trans kv9 k9; clear k9; (with_reducible refine args_cons ?_ ?he9); (case he9 => exact rfl); (with_reducible refine l_dd ?_);  intro t s' k9; replace S := St.to S k9; replace kv9 := Keeps.trans kv9 k9; clear k9; (with_reducible refine args_nil ?_); (repeat ((with_reducible refine q5 _ _ ?_); clear q5 Q5))); (have k9 := kv9; replace hg := KT k9 hg; (try replace hl1 := KP k9 hl1); (try replace hl2 := KP k9 hl2); (try replace hl3 := KP k9 hl3); (try replace hl4 := KP k9 hl4); (try replace hl5 := KP k9 hl5); (try replace hl6 := KP k9 hl6); (try replace hl7 := KP k9 hl7); (try replace hl8 := KP k9 hl8); clear k9 kv9))
  have S0 := St.ext S
  (refine n_plain (by first | exact Nat.le_of_ble_eq_true rfl | simp) fun a s' k9 hn hl => ?_); have naL := ne_of_fresh hn S.some; replace S := St.to S k9; replace hg := KT k9 hg; (try replace hl1 := KP k9 hl1); (try replace hl2 := KP k9 hl2); (try replace hl3 := KP k9 hl3); (try replace hl4 := KP k9 hl4); (try replace hl5 := KP k9 hl5); (try replace hl6 := KP k9 hl6); (try replace hl7 := KP k9 hl7); (try replace hl8 := KP k9 hl8); clear k9
  have hl8 := hl; have hn8 := fresh_of S0 hn; clear hl hn naL S0
  (have kv9 := S.kv0; ((repeat ((with_reducible refine q5 _ _ ?_); clear q5 Q5)); (with_reducible refine args_nil ?_); (repeat ((with_reducible refine q5 _ _ ?_); clear q5 Q5))); (have k9 := kv9; replace hg := KT k9 hg; (try replace hl1 := KP k9 hl1); (try replace hl2 := KP k9 hl2); (try replace hl3 := KP k9 hl3); (try replace hl4 := KP k9 hl4); (try replace hl5 := KP k9 hl5); (try replace hl6 := KP k9 hl6); (try replace hl7 := KP k9 hl7); (try replace hl8 := KP k9 hl8); clear k9 kv9))
  (refine n_tup (by first | exact Nat.le_of_ble_eq_true rfl | simp) fun a s' k9 hn ht => ?_); have naL := ne_of_fresh hn S.some; replace S := St.to S k9; replace hg := KT k9 hg; (try replace hl1 := KP k9 hl1); (try replace hl2 := KP k9 hl2); (try replace hl3 := KP k9 hl3); (try replace hl4 := KP k9 hl4); (try replace hl5 := KP k9 hl5); (try replace hl6 := KP k9 hl6); (try replace hl7 := KP k9 hl7); (try replace hl8 := KP k9 hl8); clear k9
  
  (have kv9 := S.kv0; ((repeat ((with_reducible refine q5 _ _ ?_); clear q5 Q5)); (with_reducible refine wpAny_BinOp ?_); (with_reducible refine' e_loc S ?hv9 ?_ ?hL9 ?hk9 ?hl9 ?hd9); (case hL9 => exact rfl); (case hk9 => exact rfl); (case hl9 => exact rfl); (case hd9 => decide); (case hv9 => exact rfl); (with_reducible refine e_int ?_);  intro t s' k9; replace S := St.to S k9; replace kv9 := Keeps.trans kv9 k9; clear k9; (with_reducible refine i_mod8 ?_);  intro t s' k9; replace S := St.to S k9; replace kv9 := Keeps.trans kv9 k9; clear k9; (repeat ((with_reducible refine q5 _ _ ?_); clear q5 Q5))); (have k9 := kv9; replace ht := KT k9 ht; replace hg := KT k9 hg; replace hl1 := KP k9 hl1; replace hl2 := KP k9 hl2; replace hl3 := KP k9 hl3; replace hl4 := KP k9 hl4; replace hl5 := KP k9 hl5; replace hl6 := KP k9 hl6; replace hl7 := KP k9 hl7; replace hl8 := KP k9 hl8; clear k9 kv9))
  have ghid : GoodPc (true, cs) := .inl ⟨rfl, gd⟩
  have ge : GoodPc (false, []) := .inr ⟨rfl, .inl rfl⟩
  have gp : GoodPc (false, [46]) := .inr ⟨rfl, .inr (.inl rfl)⟩
  have gpp : GoodPc (false, [46, 46]) := .inr ⟨rfl, .inr (.inr rfl)⟩
  have hpg := pg_of hg0 hg
  have h8 : d % 8 < 8 := Nat.mod_lt d (by decide)
  rcases lt8 (d % 8) h8 with e | e | e | e | e | e | e | e
  · refine sub_ti ht (by first | exact Int.natCast_nonneg _ | omega) (by first | exact lt_sz h8 | omega) (by rw [Int.toNat_natCast, e]; rfl) ?_ rfl
    (repeat ((with_reducible refine q5 _ _ ?_); clear q5 Q5)); exact h [(true, cs)] _ _ _ ⟨by simp, by simp, by simp [ghid, ge, gp, gpp]⟩ (St.ext S) hn1 hl1.isList (fun bad hb => let pg := hpg bad hb; (.cons pg .nil))
  · refine sub_ti ht (by first | exact Int.natCast_nonneg _ | omega) (by first | exact lt_sz h8 | omega) (by rw [Int.toNat_natCast, e]; rfl) ?_ rfl
    (repeat ((with_reducible refine q5 _ _ ?_); clear q5 Q5)); exact h [(true, cs)] _ _ _ ⟨by simp, by simp, by simp [ghid, ge, gp, gpp]⟩ (St.ext S) hn2 hl2.isList (fun bad hb => let pg := hpg bad hb; (.cons pg .nil))
  · refine sub_ti ht (by first | exact Int.natCast_nonneg _ | omega) (by first | exact lt_sz h8 | omega) (by rw [Int.toNat_natCast, e]; rfl) ?_ rfl
    (repeat ((with_reducible refine q5 _ _ ?_); clear q5 Q5)); exact h [(false, [46, 46])] _ _ _ ⟨by simp, by simp, by simp [ghid, ge, gp, gpp]⟩ (St.ext S) hn3 hl3.isList (fun bad hb => let pg := hpg bad hb; (.cons ⟨_, rfl⟩ .nil))
  · refine sub_ti ht (by first | exact Int.natCast_nonneg _ | omega) (by first | exact lt_sz h8 | omega) (by rw [Int.toNat_natCast, e]; rfl) ?_ rfl
    (repeat ((with_reducible refine q5 _ _ ?_); clear q5 Q5)); exact h [(false, []), (true, cs)] _ _ _ ⟨by simp, by simp, by simp [ghid, ge, gp, gpp]⟩ (St.ext S) hn4 hl4.isList (fun bad hb => let pg := hpg bad hb; (.cons ⟨_, rfl⟩ (.cons pg .nil)))
  · refine sub_ti ht (by first | exact Int.natCast_nonneg _ | omega) (by first | exact lt_sz h8 | omega) (by rw [Int.toNat_natCast, e]; rfl) ?_ rfl
    (repeat ((with_reducible refine q5 _ _ ?_); clear q5 Q5)); exact h [(true, cs), (false, [46]), (true, cs), (false, [46, 46]), (false, [])] _ _ _ ⟨by simp, by simp, by simp [ghid, ge, gp, gpp]⟩ (St.ext S) hn5 hl5.isList (fun bad hb => let pg := hpg bad hb; (.cons pg (.cons ⟨_, rfl⟩ (.cons pg (.cons ⟨_, rfl⟩ (.cons ⟨_, rfl⟩ .nil))))))
  · refine sub_ti ht (by first | exact Int.natCast_nonneg _ | omega) (by first | exact lt_sz h8 | omega) (by rw [Int.toNat_natCast, e]; rfl) ?_ rfl
    (repeat ((with_reducible refine q5 _ _ ?_); clear q5 Q5)); exact h [(false, []), (false, []), (true, cs)] _ _ _ ⟨by simp, by simp, by simp [ghid, ge, gp, gpp]⟩ (St.ext S) hn6 hl6.isList (fun bad hb => let pg := hpg bad hb; (.cons ⟨_, rfl⟩ (.cons ⟨_, rfl⟩ (.cons pg .nil))))
  · refine sub_ti ht (by first | exact Int.natCast_nonneg _ | omega) (by first | exact lt_sz h8 | omega) (by rw [Int.toNat_natCast, e]; rfl) ?_ rfl
    (repeat ((with_reducible refine q5 _ _ ?_); clear q5 Q5)); exact h [(false, [46, 46]), (false, []), (true, cs)] _ _ _ ⟨by simp, by simp, by simp [ghid, ge, gp, gpp]⟩ (St.ext S) hn7 hl7.isList (fun bad hb => let pg := hpg bad hb; (.cons ⟨_, rfl⟩ (.cons ⟨_, rfl⟩ (.cons pg .nil))))
  · refine sub_ti ht (by first | exact Int.natCast_nonneg _ | omega) (by first | exact lt_sz h8 | omega) (by rw [Int.toNat_natCast, e]; rfl) ?_ rfl
    (repeat ((with_reducible refine q5 _ _ ?_); clear q5 Q5)); exact h [(false, [46]), (true, cs), (false, [46, 46]), (false, [46, 46])] _ _ _ ⟨by simp, by simp, by simp [ghid, ge, gp, gpp]⟩ (St.ext S) hn8 hl8.isList (fun bad hb => let pg := hpg bad hb; (.cons ⟨_, rfl⟩ (.cons pg (.cons ⟨_, rfl⟩ (.cons ⟨_, rfl⟩ .nil)))))
  
end
end Mine
end
section
open PySem PySem.W PyProof.Rows PySem.Calls PySem.Builtin PySem.SeqAt
set_option maxRecDepth 100000
set_option maxHeartbeats 4000000
namespace Mine
open BF

theorem TxL.ofGet {k : Bool} : ∀ {ps : List (List Nat)} {ys : List Value}, ys.length = ps.length → (∀ (i : Nat) (y : Value), ys[i]? = some y → ∃ p, ps[i]? = some p ∧ ∃ t, y = tx k p t) → TxL k ps ys
  | [], [], _, _ => .nil
  | [], _ :: _, h, _ => by simp at h
  | _ :: _, [], h, _ => by simp at h
  | p :: ps, y :: ys, h, g => by
    obtain ⟨q, hq, t, rfl⟩ := g 0 y rfl
    simp at hq
    subst hq
    exact .cons (TxL.ofGet (by simpa using h) fun i y hy => g (i + 1) y hy)
theorem NsL.ofGet : ∀ {ps : List Nat} {ys : List Value}, ys.length = ps.length → (∀ (i : Nat) (y : Value), ys[i]? = some y → ∃ p : Nat, ps[i]? = some p ∧ ∃ t, y = .int (p : Int) t) → NsL ps ys
  | [], [], _, _ => .nil
  | [], _ :: _, h, _ => by simp at h
  | _ :: _, [], h, _ => by simp at h
  | p :: ps, y :: ys, h, g => by
    obtain ⟨q, hq, t, rfl⟩ := g 0 y rfl
    simp at hq
    subst hq
    exact .cons (NsL.ofGet (by simpa using h) fun i y hy => g (i + 1) y hy)
noncomputable def enc : Pc → List Nat
  | (false, cs) => cs
  | (true, cs) => cs.map (· + 128)
theorem flat1 (cs : List Nat) (f : Nat → Nat) : (cs.map fun c => [f c]).flatten = cs.map f := by
  induction cs with
  | nil => rfl
  | cons c r ih => simp [ih]
theorem sum1 (cs : List Nat) (f : Nat → Nat) : ((cs.map fun c => [f c]).map List.length).sum = cs.length := by
  induction cs with
  | nil => rfl
  | cons c r ih => simp at ih ⊢; omega
theorem GoodPc.len {p : Pc} (g : GoodPc p) : p.2.length ≤ 12 := by
  rcases g with ⟨_, g⟩ | ⟨_, e | e | e⟩
  · exact g.2.1
  · rw [e]; simp
  · rw [e]; simp
  · rw [e]; simp
theorem enc_len (p : Pc) : (enc p).length = p.2.length := by
  obtain ⟨b, cs⟩ := p
  cases b <;> simp [enc]
theorem sum_le {α : Type} (f : α → Nat) (n : Nat) : ∀ l : List α, (∀ x ∈ l, f x ≤ n) → (l.map f).sum ≤ n * l.length
  | [], _ => by simp
  | x :: l, h => by
    have := sum_le f n l fun y hy => h y (List.mem_cons_of_mem _ hy)
    have := h x List.mem_cons_self
    simp only [List.map_cons, List.sum_cons, List.length_cons]
    rw [Nat.mul_succ]; omega
theorem GoodRow.sum {row : List Pc} (g : GoodRow row) : ((row.map enc).map List.length).sum + (row.map enc).length ≤ 100 := by
  rw [List.map_map, List.length_map]
  have := sum_le (fun p => (enc p).length) 12 row fun p hp => by rw [enc_len]; exact (g.2.2 p hp).len
  have h2 := g.2.1
  have e : (row.map (List.length ∘ enc)).sum = (row.map fun p => (enc p).length).sum := rfl
  rw [e]; omega
theorem GoodN.oct {n : Nat} {cs : List Nat} (g : GoodN n cs) : Oct cs := fun c hc => by have := g.2.2 c hc; unfold Sign at this; omega
theorem GoodPc.octV {p : Pc} (g : GoodPc p) : Oct p.2 := by
  rcases g with ⟨_, g⟩ | ⟨_, e | e | e⟩
  · exact g.oct
  · rw [e]; exact Oct.nil
  · rw [e]; intro c hc; simp at hc; omega
  · rw [e]; intro c hc; simp at hc; omega
section
variable {A : Around} {E : Value → Shared → Prop} {w : World} {s : Shared}
theorem c_signs {row : List Pc} {a : Addr} {vs : List Value} {Q : Value → Shared → Prop} (R : Room A 3) (B : Base w s.heap) (g : GoodRow row) (hl : s.heap.IsList a vs.toArray) (hv : PcL [] s.heap row vs)
    (h : ∀ t s', Keeps s s' → Q (tx false (jn47 (row.map enc)) t) s') :
    wpAny (model PG w) A (call (.ref 190) [.ref a]) Q E s := by
  (refine' enterF (binds := [(Str.ofString "part", .ref a)]) (by assumption) (by assumption) ?ho ?hcd ?hb ?hl ?hc ?hnd ?_ ?hco ?hgen ?hk; (case ho => k_is); (case hcd => k_is); (case hb => exact rfl); (case hl => exact locs rfl); (case hc => decide); (case hnd => exact by simp); (case hco => exact rfl); (case hgen => exact rfl); (case hk => exact rfl); intro L s₁ hF S R')
  ((repeat ((with_reducible refine q5 _ _ ?_); clear q5 Q5)); (repeat ((with_reducible refine q5 _ _ ?_); clear q5 Q5)); (with_reducible refine x_consG fun Q5 q5 => ?_); (with_reducible refine wpAny_Return_some ?_); (with_reducible refine' MethodCall_ ?_ ?he9); (case he9 => exact rfl); (with_reducible refine l_sl ?_);  intro t s' k9; replace S := St.to S k9; skip; clear k9; (with_reducible refine gm_jn ?_); (with_reducible refine cm1 ?_ ?he9 ?hp9); (case he9 => exact rfl); (case hp9 => exact rfl); (with_reducible refine args_cons ?_ ?he9); (case he9 => exact rfl); (with_reducible refine e_comp (cl := []) ?_ ?hc9 ?hk9 ?hn9 ?hs9); (case hc9 => exact rfl); (case hk9 => exact rfl); (case hn9 => decide); (case hs9 => intro _; exact rfl); (with_reducible refine' e_loc S ?hv9 ?_ ?hL9 ?hk9 ?hl9 ?hd9); (case hL9 => exact rfl); (case hk9 => exact rfl); (case hl9 => exact rfl); (case hd9 => decide); (case hv9 => exact rfl); (repeat ((with_reducible refine q5 _ _ ?_); clear q5 Q5)))
  have hl' := lup hl (Keeps.up (St.ext S))
  have hv' := hv.up (Keeps.up (St.ext S))
  refine it_list hl' R'.hh fun I s9 T => ?_
  refine comp_go (F := fun bad h i y => ∃ p, row[i]? = some p ∧ ∃ t, y = tx false (enc p) t) (fun _ _ _ _ _ x _ => x) (fun _ _ _ _ x => x) T (by simp; exact IsList.some hl') (St.bs S) (by rw [hv.len]; have := g.2.1; omega) (by decide) rfl rfl ?_ ?_
  · intro C i v s₃ E' hi hv9 kk S
    refine gen fun Q8 q8 => ?_
    obtain ⟨p, hp, hpv⟩ := hv'.get hv9
    have hpv := hpv.up (Keeps.up kk)
    have hgp := g.2.2 p (List.mem_of_getElem? hp)
    ((repeat ((with_reducible refine q5 _ _ ?_); clear q5 Q5)); (with_reducible refine IfExp_ ?_); (with_reducible refine isTrue_plain ?_ ?he9); (case he9 => exact rfl); (with_reducible refine Call_ ?_ ?he9); (case he9 => exact rfl); (with_reducible refine' e_blt (St.bs S) ?e9 ?hv9 ?_ ?hn9 ?hb9 ?hg9 ?hk9 ?hx9 ?hd9); (case hb9 => exact rfl); (case hg9 => exact rfl); (case hk9 => exact rfl); (case hx9 => exact rfl); (case hd9 => decide); (case hn9 => decide); (case e9 => k_is); (case hv9 => with_reducible first | exact bb_isinstance | exact bb_bytes | exact bb_str | exact bb_type | exact bb_issubclass | exact bb_len | exact bb_chr | exact bb_ord | exact bb_int | exact bb_range | exact bb_max | exact bb_min); (with_reducible refine callWith_builtin1 ?_ ?he9 ?hp9); (case he9 => exact rfl); (case hp9 => exact rfl); (with_reducible refine args_cons ?_ ?he9); (case he9 => exact rfl); (with_reducible refine' e_loc S ?hv9 ?_ ?hL9 ?hk9 ?hl9 ?hd9); (case hL9 => exact rfl); (case hk9 => exact rfl); (case hl9 => exact rfl); (case hd9 => decide); (case hv9 => exact rfl); (with_reducible refine args_cons ?_ ?he9); (case he9 => exact rfl); (with_reducible refine' e_blt (St.bs S) ?e9 ?hv9 ?_ ?hn9 ?hb9 ?hg9 ?hk9 ?hx9 ?hd9); (case hb9 => exact rfl); (case hg9 => exact rfl); (case hk9 => exact rfl); (case hx9 => exact rfl); (case hd9 => decide); (case hn9 => decide); (case e9 => k_is); (case hv9 => with_reducible first | exact bb_isinstance | exact bb_bytes | exact bb_str | exact bb_type | exact bb_issubclass | exact bb_len | exact bb_chr | exact bb_ord | exact bb_int | exact bb_range | exact bb_max | exact bb_min); (with_reducible refine args_nil ?_); (repeat ((with_reducible refine q5 _ _ ?_); clear q5 Q5)))
    obtain ⟨b, cs⟩ := p
    cases b
    · obtain ⟨t, rfl⟩ := hpv
      refine isi_str_str (x := sOf cs) ?_
      ((repeat ((with_reducible refine q5 _ _ ?_); clear q5 Q5)); (with_reducible refine wpAny_truthy_bool ?_; refine ite_t ?_); (with_reducible refine' e_loc S ?hv9 ?_ ?hL9 ?hk9 ?hl9 ?hd9); (case hL9 => exact rfl); (case hk9 => exact rfl); (case hl9 => exact rfl); (case hd9 => decide); (case hv9 => exact rfl); (repeat ((with_reducible refine q5 _ _ ?_); clear q5 Q5)))
      (repeat ((with_reducible refine q5 _ _ ?_); clear q5 Q5)); exact q8 _ _ ⟨St.ext S, fun bad hb => ⟨_, hp, _, rfl⟩⟩
    · obtain ⟨g1, t, rfl, _, ht⟩ := hpv
      have gn : GoodN 12 cs := by
        rcases hgp with ⟨_, g⟩ | ⟨e, _⟩
        · exact g
        · cases e
      
      refine isi_tup_str ht fun s' k9 => ?_
      replace S := St.to S k9; replace ht := KT k9 ht; clear k9
      ((repeat ((with_reducible refine q5 _ _ ?_); clear q5 Q5)); (with_reducible refine wpAny_truthy_bool ?_; refine ite_f ?_); (with_reducible refine' MethodCall_ ?_ ?he9); (case he9 => exact rfl); (with_reducible refine l_0 ?_);  intro t s' k9; replace S := St.to S k9; replace ht := KT k9 ht; clear k9; (with_reducible refine gm_jn ?_); (with_reducible refine cm1 ?_ ?he9 ?hp9); (case he9 => exact rfl); (case hp9 => exact rfl); (with_reducible refine args_cons ?_ ?he9); (case he9 => exact rfl); (with_reducible refine e_comp (cl := []) ?_ ?hc9 ?hk9 ?hn9 ?hs9); (case hc9 => exact rfl); (case hk9 => exact rfl); (case hn9 => decide); (case hs9 => intro _; exact rfl); (with_reducible refine Subscript_ ?_); (with_reducible refine' e_loc S ?hv9 ?_ ?hL9 ?hk9 ?hl9 ?hd9); (case hL9 => exact rfl); (case hk9 => exact rfl); (case hl9 => exact rfl); (case hd9 => decide); (case hv9 => exact rfl); (with_reducible refine e_int ?_);  intro t s' k9; replace S := St.to S k9; replace ht := KT k9 ht; clear k9; (repeat ((with_reducible refine q5 _ _ ?_); clear q5 Q5)))
      refine sub_ti ht (by decide) (by decide) rfl ?_ rfl
      refine it_tx gn.oct R'.hh fun I s9 T => ?_
      refine comp_go (F := fun bad h i y => ∃ c, cs[i]? = some c ∧ ∃ t, y = tx false [c + 128] t) (fun _ _ _ _ _ x _ => x) (fun _ _ _ _ x => x) T (by simp) (St.bs S) (by have := gn.2.1; omega) (by decide) rfl rfl ?_ ?_
      · rintro C i v s₃ E' hi ⟨c, u, hc, rfl⟩ kk S
        refine gen fun Q8 q8 => ?_
        have hsg := gn.2.2 c (List.mem_of_getElem? hc)
        
        ((repeat ((with_reducible refine q5 _ _ ?_); clear q5 Q5)); (with_reducible refine Call_ ?_ ?he9); (case he9 => exact rfl); (with_reducible refine' e_glob (St.bs S) ?e9 ?_ ?hg9 ?hk9 ?hx9 ?hd9); (case hg9 => exact rfl); (case hk9 => exact rfl); (case hx9 => exact rfl); (case hd9 => decide); (case e9 => k_is); (with_reducible refine cf S ?hf9 ?_ ?he9); (case he9 => exact rfl); (case hf9 => k_is); (with_reducible refine args_cons ?_ ?he9); (case he9 => exact rfl); (with_reducible refine' e_loc S ?hv9 ?_ ?hL9 ?hk9 ?hl9 ?hd9); (case hL9 => exact rfl); (case hk9 => exact rfl); (case hl9 => exact rfl); (case hd9 => decide); (case hv9 => exact rfl); (with_reducible refine args_nil ?_); (with_reducible refine And.intro (Keeps.up (St.ext S)) ?_); (repeat ((with_reducible refine q5 _ _ ?_); clear q5 Q5)))
        refine c_alt (k := false) (x := c) R' (St.bs S) hsg.1 hsg.2 fun t' s' k9 => ?_
        replace S := St.to S k9; clear k9
        (repeat ((with_reducible refine q5 _ _ ?_); clear q5 Q5)); exact q8 _ _ ⟨St.ext S, fun bad hb => ⟨c, hc, t', rfl⟩⟩
        
      · intro D ys s₃ k9 hD hlD hlen hf
        replace S := St.to S k9; clear k9 ht
        have hT : TxL false (cs.map fun c => [c + 128]) ys := TxL.ofGet (by rw [hlen, List.length_map]) (fun i y hy => by
          obtain ⟨c, hc, t, e⟩ := hf i y hy
          (repeat ((with_reducible refine q5 _ _ ?_); clear q5 Q5)); exact ⟨[c + 128], by rw [List.getElem?_map, hc]; rfl, t, e⟩)
        
        ((repeat ((with_reducible refine q5 _ _ ?_); clear q5 Q5)); (with_reducible refine args_nil ?_); (repeat ((with_reducible refine q5 _ _ ?_); clear q5 Q5)))
        refine u_join0 hlD hT (by rw [sum1]; have := gn.2.1; omega) fun t' s' k9 => ?_
        replace S := St.to S k9; clear k9
        rw [flat1]
        (repeat ((with_reducible refine q5 _ _ ?_); clear q5 Q5)); exact q8 _ _ ⟨St.ext S, fun bad hb => ⟨_, hp, t', rfl⟩⟩
        
      
  · intro D ys s₃ k9 hD hlD hlen hf
    replace S := St.to S k9; clear k9
    have hT : TxL false (row.map enc) ys := TxL.ofGet (by rw [hlen, hv.len, List.length_map]) (fun i y hy => by
      obtain ⟨p, hp, t, e⟩ := hf i y hy
      (repeat ((with_reducible refine q5 _ _ ?_); clear q5 Q5)); exact ⟨enc p, by rw [List.getElem?_map, hp]; rfl, t, e⟩)
    ((repeat ((with_reducible refine q5 _ _ ?_); clear q5 Q5)); (with_reducible refine args_nil ?_); (repeat ((with_reducible refine q5 _ _ ?_); clear q5 Q5)))
    refine c_jn (k := false) hlD hT (by have := g.sum; omega) fun t' s' k9 => ?_
    replace S := St.to S k9; clear k9
    (repeat ((with_reducible refine q5 _ _ ?_); clear q5 Q5)); exact h _ _ (St.ext S)
end
end Mine
end
section
open PySem PySem.W PyProof.Rows PySem.Calls PySem.Builtin PySem.SeqAt
set_option maxRecDepth 100000
set_option maxHeartbeats 4000000
namespace Mine
open BF

theorem encB (p : Pc) (g : GoodPc p) : Oct (enc p) := by
  obtain ⟨b, cs⟩ := p
  cases b
  · exact g.octV
  · rcases g with ⟨_, g⟩ | ⟨e, _⟩
    · intro c hc
      obtain ⟨d, hd, rfl⟩ := List.mem_map.mp hc
      have := g.2.2 d hd
      unfold Sign at this; omega
    · cases e
section
variable {A : Around} {E : Value → Shared → Prop} {w : World} {s : Shared}
theorem c_octets {row : List Pc} {a : Addr} {vs : List Value} {Q : Value → Shared → Prop} (R : Room A 3) (B : Base w s.heap) (g : GoodRow row) (hl : s.heap.IsList a vs.toArray) (hv : PcL [] s.heap row vs)
    (h : ∀ t s', Keeps s s' → Q (tx true (jn47 (row.map enc)) t) s') :
    wpAny (model PG w) A (call (.ref 195) [.ref a]) Q E s := by
  (refine' enterF (binds := [(Str.ofString "part", .ref a)]) (by assumption) (by assumption) ?ho ?hcd ?hb ?hl ?hc ?hnd ?_ ?hco ?hgen ?hk; (case ho => k_is); (case hcd => k_is); (case hb => exact rfl); (case hl => exact locs rfl); (case hc => decide); (case hnd => exact by simp); (case hco => exact rfl); (case hgen => exact rfl); (case hk => exact rfl); intro L s₁ hF S R')
  ((repeat ((with_reducible refine q5 _ _ ?_); clear q5 Q5)); (repeat ((with_reducible refine q5 _ _ ?_); clear q5 Q5)); (with_reducible refine x_consG fun Q5 q5 => ?_); (with_reducible refine wpAny_Return_some ?_); (with_reducible refine' MethodCall_ ?_ ?he9); (case he9 => exact rfl); (with_reducible refine b_sl ?_);  intro t s' k9; replace S := St.to S k9; skip; clear k9; (with_reducible refine gm_jn ?_); (with_reducible refine cm1 ?_ ?he9 ?hp9); (case he9 => exact rfl); (case hp9 => exact rfl); (with_reducible refine args_cons ?_ ?he9); (case he9 => exact rfl); (with_reducible refine e_comp (cl := []) ?_ ?hc9 ?hk9 ?hn9 ?hs9); (case hc9 => exact rfl); (case hk9 => exact rfl); (case hn9 => decide); (case hs9 => intro _; exact rfl); (with_reducible refine' e_loc S ?hv9 ?_ ?hL9 ?hk9 ?hl9 ?hd9); (case hL9 => exact rfl); (case hk9 => exact rfl); (case hl9 => exact rfl); (case hd9 => decide); (case hv9 => exact rfl); (repeat ((with_reducible refine q5 _ _ ?_); clear q5 Q5)))
  have hl' := lup hl (Keeps.up (St.ext S))
  have hv' := hv.up (Keeps.up (St.ext S))
  refine it_list hl' R'.hh fun I s9 T => ?_
  refine comp_go (F := fun bad h i y => ∃ p, row[i]? = some p ∧ ∃ t, y = tx true (enc p) t) (fun _ _ _ _ _ x _ => x) (fun _ _ _ _ x => x) T (by simp; exact IsList.some hl') (St.bs S) (by rw [hv.len]; have := g.2.1; omega) (by decide) rfl rfl ?_ ?_
  · intro C i v s₃ E' hi hv9 kk S
    refine gen fun Q8 q8 => ?_
    obtain ⟨p, hp, hpv⟩ := hv'.get hv9
    have hpv := hpv.up (Keeps.up kk)
    have hgp := g.2.2 p (List.mem_of_getElem? hp)
    have hlen := hgp.len
    ((repeat ((with_reducible refine q5 _ _ ?_); clear q5 Q5)); (with_reducible refine IfExp_ ?_); (with_reducible refine isTrue_plain ?_ ?he9); (case he9 => exact rfl); (with_reducible refine Call_ ?_ ?he9); (case he9 => exact rfl); (with_reducible refine' e_blt (St.bs S) ?e9 ?hv9 ?_ ?hn9 ?hb9 ?hg9 ?hk9 ?hx9 ?hd9); (case hb9 => exact rfl); (case hg9 => exact rfl); (case hk9 => exact rfl); (case hx9 => exact rfl); (case hd9 => decide); (case hn9 => decide); (case e9 => k_is); (case hv9 => with_reducible first | exact bb_isinstance | exact bb_bytes | exact bb_str | exact bb_type | exact bb_issubclass | exact bb_len | exact bb_chr | exact bb_ord | exact bb_int | exact bb_range | exact bb_max | exact bb_min); (with_reducible refine callWith_builtin1 ?_ ?he9 ?hp9); (case he9 => exact rfl); (case hp9 => exact rfl); (with_reducible refine args_cons ?_ ?he9); (case he9 => exact rfl); (with_reducible refine' e_loc S ?hv9 ?_ ?hL9 ?hk9 ?hl9 ?hd9); (case hL9 => exact rfl); (case hk9 => exact rfl); (case hl9 => exact rfl); (case hd9 => decide); (case hv9 => exact rfl); (with_reducible refine args_cons ?_ ?he9); (case he9 => exact rfl); (with_reducible refine' e_blt (St.bs S) ?e9 ?hv9 ?_ ?hn9 ?hb9 ?hg9 ?hk9 ?hx9 ?hd9); (case hb9 => exact rfl); (case hg9 => exact rfl); (case hk9 => exact rfl); (case hx9 => exact rfl); (case hd9 => decide); (case hn9 => decide); (case e9 => k_is); (case hv9 => with_reducible first | exact bb_isinstance | exact bb_bytes | exact bb_str | exact bb_type | exact bb_issubclass | exact bb_len | exact bb_chr | exact bb_ord | exact bb_int | exact bb_range | exact bb_max | exact bb_min); (with_reducible refine args_nil ?_); (repeat ((with_reducible refine q5 _ _ ?_); clear q5 Q5)))
    obtain ⟨b, cs⟩ := p
    cases b
    · obtain ⟨t, rfl⟩ := hpv
      refine isi_str_str (x := sOf cs) ?_
      ((repeat ((with_reducible refine q5 _ _ ?_); clear q5 Q5)); (with_reducible refine wpAny_truthy_bool ?_; refine ite_t ?_); (with_reducible refine Call_ ?_ ?he9); (case he9 => exact rfl); (with_reducible refine' e_blt (St.bs S) ?e9 ?hv9 ?_ ?hn9 ?hb9 ?hg9 ?hk9 ?hx9 ?hd9); (case hb9 => exact rfl); (case hg9 => exact rfl); (case hk9 => exact rfl); (case hx9 => exact rfl); (case hd9 => decide); (case hn9 => decide); (case e9 => k_is); (case hv9 => with_reducible first | exact bb_isinstance | exact bb_bytes | exact bb_str | exact bb_type | exact bb_issubclass | exact bb_len | exact bb_chr | exact bb_ord | exact bb_int | exact bb_range | exact bb_max | exact bb_min); (with_reducible refine PyProof.Rows.callWith_type1 ?_ ?he9 ?hp9); (case he9 => exact rfl); (case hp9 => exact rfl); (with_reducible refine args_cons ?_ ?he9); (case he9 => exact rfl); (with_reducible refine e_comp (cl := []) ?_ ?hc9 ?hk9 ?hn9 ?hs9); (case hc9 => exact rfl); (case hk9 => exact rfl); (case hn9 => decide); (case hs9 => intro _; exact rfl); (with_reducible refine' e_loc S ?hv9 ?_ ?hL9 ?hk9 ?hl9 ?hd9); (case hL9 => exact rfl); (case hk9 => exact rfl); (case hl9 => exact rfl); (case hd9 => decide); (case hv9 => exact rfl); (repeat ((with_reducible refine q5 _ _ ?_); clear q5 Q5)))
      refine it_tx (k := false) hgp.octV R'.hh fun I s9 T => ?_
      refine comp_go (F := fun bad h i y => ∃ c : Nat, cs[i]? = some c ∧ ∃ t, y = .int (c : Int) t) (fun _ _ _ _ _ x _ => x) (fun _ _ _ _ x => x) T (by simp) (St.bs S) (by dsimp only at hlen; omega) (by decide) rfl rfl ?_ ?_
      · rintro C i v s₃ E' hi ⟨c, u, hc, rfl⟩ kk S
        refine gen fun Q8 q8 => ?_
        ((repeat ((with_reducible refine q5 _ _ ?_); clear q5 Q5)); (with_reducible refine Call_ ?_ ?he9); (case he9 => exact rfl); (with_reducible refine' e_blt (St.bs S) ?e9 ?hv9 ?_ ?hn9 ?hb9 ?hg9 ?hk9 ?hx9 ?hd9); (case hb9 => exact rfl); (case hg9 => exact rfl); (case hk9 => exact rfl); (case hx9 => exact rfl); (case hd9 => decide); (case hn9 => decide); (case e9 => k_is); (case hv9 => with_reducible first | exact bb_isinstance | exact bb_bytes | exact bb_str | exact bb_type | exact bb_issubclass | exact bb_len | exact bb_chr | exact bb_ord | exact bb_int | exact bb_range | exact bb_max | exact bb_min); (with_reducible refine callWith_builtin1 ?_ ?he9 ?hp9); (case he9 => exact rfl); (case hp9 => exact rfl); (with_reducible refine args_cons ?_ ?he9); (case he9 => exact rfl); (with_reducible refine' e_loc S ?hv9 ?_ ?hL9 ?hk9 ?hl9 ?hd9); (case hL9 => exact rfl); (case hk9 => exact rfl); (case hl9 => exact rfl); (case hd9 => decide); (case hv9 => exact rfl); (with_reducible refine args_nil ?_); (repeat ((with_reducible refine q5 _ _ ?_); clear q5 Q5)))
        refine i_ord (c := c) fun t' s' k9 => ?_
        replace S := St.to S k9; clear k9
        (repeat ((with_reducible refine q5 _ _ ?_); clear q5 Q5)); exact q8 _ _ ⟨St.ext S, fun bad hb => ⟨c, hc, t', rfl⟩⟩
      · intro D ys s₃ k9 hD hlD hlen' hf
        replace S := St.to S k9; clear k9
        have hT : NsL cs ys := NsL.ofGet hlen' hf
        ((repeat ((with_reducible refine q5 _ _ ?_); clear q5 Q5)); (with_reducible refine args_nil ?_); (repeat ((with_reducible refine q5 _ _ ?_); clear q5 Q5)))
        refine u_bytes R'.hh hlD hT hgp.octV (by dsimp only at hlen; omega) fun t' s' k9 => ?_
        replace S := St.to S k9; clear k9
        (repeat ((with_reducible refine q5 _ _ ?_); clear q5 Q5)); exact q8 _ _ ⟨St.ext S, fun bad hb => ⟨_, hp, t', rfl⟩⟩
    · obtain ⟨g1, t, rfl, _, ht⟩ := hpv
      have gn : GoodN 12 cs := by
        rcases hgp with ⟨_, g⟩ | ⟨e, _⟩
        · exact g
        · cases e
      
      refine isi_tup_str ht fun s' k9 => ?_
      replace S := St.to S k9; replace ht := KT k9 ht; clear k9
      ((repeat ((with_reducible refine q5 _ _ ?_); clear q5 Q5)); (with_reducible refine wpAny_truthy_bool ?_; refine ite_f ?_); (with_reducible refine Call_ ?_ ?he9); (case he9 => exact rfl); (with_reducible refine' e_blt (St.bs S) ?e9 ?hv9 ?_ ?hn9 ?hb9 ?hg9 ?hk9 ?hx9 ?hd9); (case hb9 => exact rfl); (case hg9 => exact rfl); (case hk9 => exact rfl); (case hx9 => exact rfl); (case hd9 => decide); (case hn9 => decide); (case e9 => k_is); (case hv9 => with_reducible first | exact bb_isinstance | exact bb_bytes | exact bb_str | exact bb_type | exact bb_issubclass | exact bb_len | exact bb_chr | exact bb_ord | exact bb_int | exact bb_range | exact bb_max | exact bb_min); (with_reducible refine PyProof.Rows.callWith_type1 ?_ ?he9 ?hp9); (case he9 => exact rfl); (case hp9 => exact rfl); (with_reducible refine args_cons ?_ ?he9); (case he9 => exact rfl); (with_reducible refine e_comp (cl := []) ?_ ?hc9 ?hk9 ?hn9 ?hs9); (case hc9 => exact rfl); (case hk9 => exact rfl); (case hn9 => decide); (case hs9 => intro _; exact rfl); (with_reducible refine Subscript_ ?_); (with_reducible refine' e_loc S ?hv9 ?_ ?hL9 ?hk9 ?hl9 ?hd9); (case hL9 => exact rfl); (case hk9 => exact rfl); (case hl9 => exact rfl); (case hd9 => decide); (case hv9 => exact rfl); (with_reducible refine e_int ?_);  intro t s' k9; replace S := St.to S k9; replace ht := KT k9 ht; clear k9; (repeat ((with_reducible refine q5 _ _ ?_); clear q5 Q5)))
      refine sub_ti ht (by decide) (by decide) rfl ?_ rfl
      refine it_tx (k := false) gn.oct R'.hh fun I s9 T => ?_
      refine comp_go (F := fun bad h i y => ∃ c : Nat, (cs.map (· + 128))[i]? = some c ∧ ∃ t, y = .int (c : Int) t) (fun _ _ _ _ _ x _ => x) (fun _ _ _ _ x => x) T (by simp) (St.bs S) (by have := gn.2.1; omega) (by decide) rfl rfl ?_ ?_
      · rintro C i v s₃ E' hi ⟨c, u, hc, rfl⟩ kk S
        refine gen fun Q8 q8 => ?_
        have hsg := gn.2.2 c (List.mem_of_getElem? hc)
        
        ((repeat ((with_reducible refine q5 _ _ ?_); clear q5 Q5)); (with_reducible refine Call_ ?_ ?he9); (case he9 => exact rfl); (with_reducible refine' e_glob (St.bs S) ?e9 ?_ ?hg9 ?hk9 ?hx9 ?hd9); (case hg9 => exact rfl); (case hk9 => exact rfl); (case hx9 => exact rfl); (case hd9 => decide); (case e9 => k_is); (with_reducible refine cf S ?hf9 ?_ ?he9); (case he9 => exact rfl); (case hf9 => k_is); (with_reducible refine args_cons ?_ ?he9); (case he9 => exact rfl); (with_reducible refine Call_ ?_ ?he9); (case he9 => exact rfl); (with_reducible refine' e_blt (St.bs S) ?e9 ?hv9 ?_ ?hn9 ?hb9 ?hg9 ?hk9 ?hx9 ?hd9); (case hb9 => exact rfl); (case hg9 => exact rfl); (case hk9 => exact rfl); (case hx9 => exact rfl); (case hd9 => decide); (case hn9 => decide); (case e9 => k_is); (case hv9 => with_reducible first | exact bb_isinstance | exact bb_bytes | exact bb_str | exact bb_type | exact bb_issubclass | exact bb_len | exact bb_chr | exact bb_ord | exact bb_int | exact bb_range | exact bb_max | exact bb_min); (with_reducible refine callWith_builtin1 ?_ ?he9 ?hp9); (case he9 => exact rfl); (case hp9 => exact rfl); (with_reducible refine args_cons ?_ ?he9); (case he9 => exact rfl); (with_reducible refine' e_loc S ?hv9 ?_ ?hL9 ?hk9 ?hl9 ?hd9); (case hL9 => exact rfl); (case hk9 => exact rfl); (case hl9 => exact rfl); (case hd9 => decide); (case hv9 => exact rfl); (with_reducible refine args_nil ?_); (repeat ((with_reducible refine q5 _ _ ?_); clear q5 Q5)))
        refine i_ord (c := c) fun t' s' k9 => ?_
        replace S := St.to S k9; clear k9
        ((repeat ((with_reducible refine q5 _ _ ?_); clear q5 Q5)); (with_reducible refine args_nil ?_); (with_reducible refine And.intro (Keeps.up (St.ext S)) ?_); (repeat ((with_reducible refine q5 _ _ ?_); clear q5 Q5)))
        refine c_alt (k := true) (x := c) R' (St.bs S) hsg.1 hsg.2 fun t' s' k9 => ?_
        replace S := St.to S k9; clear k9
        (repeat ((with_reducible refine q5 _ _ ?_); clear q5 Q5)); exact q8 _ _ ⟨St.ext S, fun bad hb => ⟨c + 128, by rw [List.getElem?_map, hc]; rfl, t', rfl⟩⟩
        
      · intro D ys s₃ k9 hD hlD hlen hf
        replace S := St.to S k9; clear k9 ht
        have hT : NsL (cs.map (· + 128)) ys := NsL.ofGet (by rw [hlen, List.length_map]) hf
        
        ((repeat ((with_reducible refine q5 _ _ ?_); clear q5 Q5)); (with_reducible refine args_nil ?_); (repeat ((with_reducible refine q5 _ _ ?_); clear q5 Q5)))
        refine u_bytes R'.hh hlD hT (encB (true, cs) hgp) (by rw [List.length_map]; have := gn.2.1; omega) fun t' s' k9 => ?_
        replace S := St.to S k9; clear k9
        (repeat ((with_reducible refine q5 _ _ ?_); clear q5 Q5)); exact q8 _ _ ⟨St.ext S, fun bad hb => ⟨_, hp, t', rfl⟩⟩
        
      
  · intro D ys s₃ k9 hD hlD hlen hf
    replace S := St.to S k9; clear k9
    have hT : TxL true (row.map enc) ys := TxL.ofGet (by rw [hlen, hv.len, List.length_map]) (fun i y hy => by
      obtain ⟨p, hp, t, e⟩ := hf i y hy
      (repeat ((with_reducible refine q5 _ _ ?_); clear q5 Q5)); exact ⟨enc p, by rw [List.getElem?_map, hp]; rfl, t, e⟩)
    ((repeat ((with_reducible refine q5 _ _ ?_); clear q5 Q5)); (with_reducible refine args_nil ?_); (repeat ((with_reducible refine q5 _ _ ?_); clear q5 Q5)))
    refine c_jn (k := true) hlD hT (by have := g.sum; omega) fun t' s' k9 => ?_
    replace S := St.to S k9; clear k9
    (repeat ((with_reducible refine q5 _ _ ?_); clear q5 Q5)); exact h _ _ (St.ext S)
end
end Mine
end
section
open PySem PySem.W PyProof.Rows PySem.Calls PySem.Builtin PySem.SeqAt
set_option maxRecDepth 100000
set_option maxHeartbeats 4000000
namespace Mine
open BF

noncomputable def frontC : List Pc → Nat
  | [] => 0
  | [_] => 0
  | p :: q :: r => if p = (false, []) then frontC (q :: r) + 1 else 0
theorem front_step {row : List Pc} {c : Nat} {p : Pc} (h : c + 1 < row.length) (hp : row[c]? = some p) : frontC (row.drop c) = if p = (false, []) then frontC (row.drop (c + 1)) + 1 else 0 := by
  have e : row.drop c = p :: row.drop (c + 1) := by
    rw [List.drop_eq_getElem_cons (by omega)]
    have := List.getElem?_eq_getElem (l := row) (i := c) (by omega)
    rw [hp] at this
    rw [Option.some.inj this]
  rw [e]
  cases h2 : row.drop (c + 1) with
  | nil => have := congrArg List.length h2; simp at this; omega
  | cons q r => rfl
theorem front_stop {row : List Pc} {c : Nat} (h : ¬ c + 1 < row.length) : frontC (row.drop c) = 0 := by
  cases h2 : row.drop c with
  | nil => rfl
  | cons q r =>
    cases r with
    | nil => rfl
    | cons q' r' => have := congrArg List.length h2; simp at this; omega
section
variable {prog : Program} {A : Around} {E : Value → Shared → Prop} {w : World} {s : Shared} {Q : Value → Shared → Prop}
theorem pair_beq (cs ds : List Nat) : ((false, cs) == (false, ds)) = (cs == ds) := by
  rw [Bool.eq_iff_iff, beq_iff_eq, beq_iff_eq]
  constructor
  · intro e; exact (Prod.mk.inj e).2
  · intro e; rw [e]
theorem eq_pc {bad : List Addr} {p : Pc} {v : Value} {ds : List Nat} {u : Tok} (hp : PcV bad s.heap p v) (hu : A.units < cLine) (h : Q (.bool (p == (false, ds))) s) : wpAny (model prog w) A (compareOp .Eq v (tx false ds u)) Q E s := by
  obtain ⟨b, cs⟩ := p
  cases b
  · obtain ⟨t, rfl⟩ := hp
    refine P.eq_str (x := sOf cs) (y := sOf ds) ?_
    have e := pair_beq cs ds
    rw [e] at h; exact h
  · obtain ⟨g, t, rfl, _, ht⟩ := hp
    have e : ((true, cs) == (false, ds)) = false := rfl
    rw [e] at h
    exact u_eqT ht hu h
theorem ne_pc {bad : List Addr} {p : Pc} {v : Value} {ds : List Nat} {u : Tok} (hp : PcV bad s.heap p v) (hu : A.units < cLine) (h : Q (.bool (p != (false, ds))) s) : wpAny (model prog w) A (compareOp .NotEq v (tx false ds u)) Q E s := by
  obtain ⟨b, cs⟩ := p
  cases b
  · obtain ⟨t, rfl⟩ := hp
    refine P.ne_str (x := sOf cs) (y := sOf ds) ?_
    have e2 : ((false, cs) != (false, ds)) = (cs != ds) := by
      show (!((false, cs) == (false, ds))) = (!(cs == ds)); rw [pair_beq]
    rw [e2] at h; exact h
  · obtain ⟨g, t, rfl, _, ht⟩ := hp
    have e : ((true, cs) != (false, ds)) = true := rfl
    rw [e] at h
    exact u_neT ht hu h
end
section
variable {A : Around} {E : Value → Shared → Prop} {w : World} {s : Shared}
theorem Room.cl {A : Around} {n : Nat} (R : Room A n) : A.units < cLine := by have := R.un; unfold cLine; omega
theorem c_front {row : List Pc} {a : Addr} {vs : List Value} {Q : Value → Shared → Prop} (R : Room A 1) (B : Base w s.heap) (hz : row.length ≤ 1000000) (hl : s.heap.IsList a vs.toArray) (hv : PcL [] s.heap row vs)
    (h : ∀ t s', Keeps s s' → Q (.int (frontC row : Int) t) s') :
    wpAny (model PG w) A (call (.ref 207) [.ref a]) Q E s := by
  (refine' enterF (binds := [(Str.ofString "row", .ref a)]) (by assumption) (by assumption) ?ho ?hcd ?hb ?hl ?hc ?hnd ?_ ?hco ?hgen ?hk; (case ho => k_is); (case hcd => k_is); (case hb => exact rfl); (case hl => exact locs rfl); (case hc => decide); (case hnd => exact by simp); (case hco => exact rfl); (case hgen => exact rfl); (case hk => exact rfl); intro L s₁ hF S R')
  ((repeat ((with_reducible refine q5 _ _ ?_); clear q5 Q5)); (repeat ((with_reducible refine q5 _ _ ?_); clear q5 Q5)); (with_reducible refine x_consG fun Q5 q5 => ?_); (with_reducible refine wpAny_Assign_Name ?_ ?hs9); (case hs9 => exact rfl); (with_reducible refine e_int ?_);  intro t s' k9; replace S := St.to S k9; skip; clear k9; (with_reducible refine st_loc S hF ?_ ?hL9 ?hl9 ?hp9); (case hL9 => exact rfl); (case hl9 => exact rfl); (case hp9 => exact rfl); clear S; intro s' S d9 kk9; skip; clear d9 kk9; (repeat ((with_reducible refine q5 _ _ ?_); clear q5 Q5)); (with_reducible refine x_consG fun Q5 q5 => ?_); (with_reducible refine wpAny_While ?_); (repeat ((with_reducible refine q5 _ _ ?_); clear q5 Q5)))
  refine while_rule (σ := Nat × Tok) [] (fun σ => [(Str.ofString "row", .ref a), (Str.ofString "count", .int (σ.1 : Int) σ.2)])
    (fun n σ _ => frontC row = σ.1 + frontC (row.drop σ.1) ∧ n = row.length - σ.1) (0, _) (row.length - 0) S ⟨rfl, rfl, trivial⟩ ⟨by simp, rfl⟩ ?_
  rintro n ⟨c, tc⟩ s₁ E' ⟨hc, hn⟩ S K
  dsimp only at S hc hn
  have kb := KB.refl [L] s₁.heap
  
  ((repeat ((with_reducible refine q5 _ _ ?_); clear q5 Q5)); (with_reducible refine isTrue_and ?_); (with_reducible refine wpAny_isTrue_Compare1 ?_ ?hm9); (case hm9 => exact rfl); (with_reducible refine wpAny_BinOp ?_); (with_reducible refine' e_loc S ?hv9 ?_ ?hL9 ?hk9 ?hl9 ?hd9); (case hL9 => exact rfl); (case hk9 => exact rfl); (case hl9 => exact rfl); (case hd9 => decide); (case hv9 => exact rfl); (with_reducible refine e_int ?_);  intro t s' k9; replace S := St.to S k9; replace kb := kb.keeps k9; clear k9; (with_reducible refine i_addN ?_);  intro t s' k9; replace S := St.to S k9; replace kb := kb.keeps k9; clear k9; (with_reducible refine Call_ ?_ ?he9); (case he9 => exact rfl); (with_reducible refine' e_blt (St.bs S) ?e9 ?hv9 ?_ ?hn9 ?hb9 ?hg9 ?hk9 ?hx9 ?hd9); (case hb9 => exact rfl); (case hg9 => exact rfl); (case hk9 => exact rfl); (case hx9 => exact rfl); (case hd9 => decide); (case hn9 => decide); (case e9 => k_is); (case hv9 => with_reducible first | exact bb_isinstance | exact bb_bytes | exact bb_str | exact bb_type | exact bb_issubclass | exact bb_len | exact bb_chr | exact bb_ord | exact bb_int | exact bb_range | exact bb_max | exact bb_min); (with_reducible refine callWith_builtin1 ?_ ?he9 ?hp9); (case he9 => exact rfl); (case hp9 => exact rfl); (with_reducible refine args_cons ?_ ?he9); (case he9 => exact rfl); (with_reducible refine' e_loc S ?hv9 ?_ ?hL9 ?hk9 ?hl9 ?hd9); (case hL9 => exact rfl); (case hk9 => exact rfl); (case hl9 => exact rfl); (case hd9 => decide); (case hv9 => exact rfl); (with_reducible refine args_nil ?_); (repeat ((with_reducible refine q5 _ _ ?_); clear q5 Q5)))
  refine u_len (lup hl (Keeps.up (St.ext S))) (by rw [hv.len]; omega) fun t' s' k9 => ?_
  replace S := St.to S k9; replace kb := kb.keeps k9; clear k9
  ((repeat ((with_reducible refine q5 _ _ ?_); clear q5 Q5)); (with_reducible refine P.lt_int ?_; refine wpAny_truthy_bool ?_); (repeat ((with_reducible refine q5 _ _ ?_); clear q5 Q5)))
  have hlen := hv.len
  refine ite_b (fun hb => ?_) (fun hb => ?_)
  · have hb : c + 1 < row.length := by have := of_decide_eq_true hb; omega
    ((repeat ((with_reducible refine q5 _ _ ?_); clear q5 Q5)); (with_reducible refine isTrue_and ?_); (with_reducible refine wpAny_isTrue_Compare1 ?_ ?hm9); (case hm9 => exact rfl); (with_reducible refine Subscript_ ?_); (with_reducible refine' e_loc S ?hv9 ?_ ?hL9 ?hk9 ?hl9 ?hd9); (case hL9 => exact rfl); (case hk9 => exact rfl); (case hl9 => exact rfl); (case hd9 => decide); (case hv9 => exact rfl); (with_reducible refine' e_loc S ?hv9 ?_ ?hL9 ?hk9 ?hl9 ?hd9); (case hL9 => exact rfl); (case hk9 => exact rfl); (case hl9 => exact rfl); (case hd9 => decide); (case hv9 => exact rfl); (repeat ((with_reducible refine q5 _ _ ?_); clear q5 Q5)))
    have hcl : c < vs.length := by omega
    refine sub_li (lup hl (Keeps.up (St.ext S))) (by first | exact Int.natCast_nonneg _ | omega) (by omega) (by rw [Int.toNat_natCast]; exact List.getElem?_eq_getElem hcl) ?_ rfl
    obtain ⟨p, hp, hpv⟩ := hv.get (List.getElem?_eq_getElem hcl)
    have hfs := front_step hb hp
    ((repeat ((with_reducible refine q5 _ _ ?_); clear q5 Q5)); (with_reducible refine l_0 ?_);  intro t s' k9; replace S := St.to S k9; replace kb := kb.keeps k9; clear k9; (repeat ((with_reducible refine q5 _ _ ?_); clear q5 Q5)))
    refine eq_pc (hpv.up (Keeps.up (St.ext S))) R'.cl ?_
    ((repeat ((with_reducible refine q5 _ _ ?_); clear q5 Q5)); (with_reducible refine wpAny_truthy_bool ?_); (repeat ((with_reducible refine q5 _ _ ?_); clear q5 Q5)))
    refine ite_b (fun hb2 => ?_) (fun hb2 => ?_)
    · have hb2 : p = (false, []) := by simpa using hb2
      rw [if_pos hb2] at hfs
      ((repeat ((with_reducible refine q5 _ _ ?_); clear q5 Q5)); (with_reducible refine isTrue_and_nil ?_; refine ite_t ?_); (repeat ((with_reducible refine q5 _ _ ?_); clear q5 Q5)); (with_reducible refine x_consG fun Q5 q5 => ?_); (with_reducible refine wpAny_AugAssign_Name ?_); (with_reducible refine' n_loc S ?hv9 ?_ ?hL9 ?hk9 ?hl9); (case hL9 => exact rfl); (case hk9 => exact rfl); (case hl9 => exact rfl); (case hv9 => exact rfl); (with_reducible refine e_int ?_);  intro t s' k9; replace S := St.to S k9; replace kb := kb.keeps k9; clear k9; (with_reducible refine i_iaddN ?_);  intro t s' k9; replace S := St.to S k9; replace kb := kb.keeps k9; clear k9; (with_reducible refine st_loc S hF ?_ ?hL9 ?hl9 ?hp9); (case hL9 => exact rfl); (case hl9 => exact rfl); (case hp9 => exact rfl); clear S; intro s' S d9 kk9; replace kb := kb.trans (KB.but kk9 List.mem_cons_self); clear d9 kk9; (repeat ((with_reducible refine q5 _ _ ?_); clear q5 Q5)); (with_reducible refine wpAny_execs_nil ?_); (repeat ((with_reducible refine q5 _ _ ?_); clear q5 Q5)))
      (repeat ((with_reducible refine q5 _ _ ?_); clear q5 Q5)); exact ⟨.inl rfl, row.length - (c + 1), (c + 1, _), by omega, ⟨by dsimp only; omega, rfl⟩, S.sub ⟨rfl, rfl, trivial⟩, kb⟩
    · have hb2 : ¬ p = (false, []) := by simpa using hb2
      rw [if_neg hb2] at hfs
      intro s₃ e
      subst e
      dsimp only
      ((repeat ((with_reducible refine q5 _ _ ?_); clear q5 Q5)); (repeat ((with_reducible refine q5 _ _ ?_); clear q5 Q5)); (with_reducible refine x_consG fun Q5 q5 => ?_); (with_reducible refine wpAny_Return_some ?_); (with_reducible refine' e_loc S ?hv9 ?_ ?hL9 ?hk9 ?hl9 ?hd9); (case hL9 => exact rfl); (case hk9 => exact rfl); (case hl9 => exact rfl); (case hd9 => decide); (case hv9 => exact rfl); (repeat ((with_reducible refine q5 _ _ ?_); clear q5 Q5)))
      have e : frontC row = c := by omega
      rw [e] at h
      (repeat ((with_reducible refine q5 _ _ ?_); clear q5 Q5)); exact h _ _ (St.ext S)
  · have hb : ¬ c + 1 < row.length := by have := of_decide_eq_false hb; omega
    have hfs := front_stop hb
    ((repeat ((with_reducible refine q5 _ _ ?_); clear q5 Q5)); (with_reducible refine ite_f ?_); (repeat ((with_reducible refine q5 _ _ ?_); clear q5 Q5)))
    intro s₃ e
    subst e
    dsimp only
    ((repeat ((with_reducible refine q5 _ _ ?_); clear q5 Q5)); (repeat ((with_reducible refine q5 _ _ ?_); clear q5 Q5)); (with_reducible refine x_consG fun Q5 q5 => ?_); (with_reducible refine wpAny_Return_some ?_); (with_reducible refine' e_loc S ?hv9 ?_ ?hL9 ?hk9 ?hl9 ?hd9); (case hL9 => exact rfl); (case hk9 => exact rfl); (case hl9 => exact rfl); (case hd9 => decide); (case hv9 => exact rfl); (repeat ((with_reducible refine q5 _ _ ?_); clear q5 Q5)))
    have e : frontC row = c := by omega
    rw [e] at h
    (repeat ((with_reducible refine q5 _ _ ?_); clear q5 Q5)); exact h _ _ (St.ext S)
  
end
end Mine
end
section
open PySem PySem.W PyProof.Rows PySem.Calls PySem.Builtin PySem.SeqAt
set_option maxRecDepth 100000
set_option maxHeartbeats 4000000
namespace Mine
open BF

theorem tw_all {l r : List Nat} (h : 47 ∉ l) : (l ++ 47 :: r).takeWhile (· != 47) = l ∧ (l ++ 47 :: r).dropWhile (· != 47) = 47 :: r := by
  induction l with
  | nil => simp
  | cons c l ih =>
    have hc : (c != 47) = true := by simp; intro e; exact h (by rw [e]; exact List.mem_cons_self)
    have ih := ih fun hm => h (List.mem_cons_of_mem _ hm)
    rw [List.cons_append, List.takeWhile_cons, List.dropWhile_cons, if_pos hc, if_pos hc, ih.1, ih.2]; exact ⟨rfl, rfl⟩
theorem tw_free {l : List Nat} (h : 47 ∉ l) : l.takeWhile (· != 47) = l ∧ l.dropWhile (· != 47) = [] := by
  induction l with
  | nil => simp
  | cons c l ih =>
    have hc : (c != 47) = true := by simp; intro e; exact h (by rw [e]; exact List.mem_cons_self)
    have ih := ih fun hm => h (List.mem_cons_of_mem _ hm)
    rw [List.takeWhile_cons, List.dropWhile_cons, if_pos hc, if_pos hc, ih.1, ih.2]; exact ⟨rfl, rfl⟩
theorem hd_app {a l : List Nat} (h : 47 ∉ l) : hd47 (a ++ 47 :: l) = a ++ [47] ∧ tl47 (a ++ 47 :: l) = l := by
  have e : (a ++ 47 :: l).reverse = l.reverse ++ 47 :: a.reverse := by simp
  have h' : 47 ∉ l.reverse := fun hm => h (List.mem_reverse.mp hm)
  unfold hd47 tl47
  rw [e, (tw_all h').1, (tw_all h').2]; simp
theorem hd_free {l : List Nat} (h : 47 ∉ l) : hd47 l = [] ∧ tl47 l = l := by
  have h' : 47 ∉ l.reverse := fun hm => h (List.mem_reverse.mp hm)
  unfold hd47 tl47
  rw [(tw_free h').1, (tw_free h').2]; simp
theorem rs_app {a : List Nat} {c : Nat} (h : c ≠ 47) : rs47 (a ++ [c] ++ [47]) = a ++ [c] := by
  unfold rs47
  have e : (a ++ [c] ++ [47]).reverse = 47 :: c :: a.reverse := by simp
  rw [e, List.dropWhile_cons]
  simp [List.dropWhile_cons, h]
noncomputable def Root (r : List Nat) : Prop := r = [] ∨ r = [47] ∨ r = [47, 47]
noncomputable def Pth (r : List Nat) (ps : List (List Nat)) : List Nat := r ++ jn47 ps
theorem jn_snoc {ps : List (List Nat)} (h : ps ≠ []) (l : List Nat) : jn47 (ps ++ [l]) = jn47 ps ++ 47 :: l := by
  induction ps with
  | nil => exact absurd rfl h
  | cons p ps ih =>
    cases ps with
    | nil => rfl
    | cons q ps =>
      have := ih (by simp)
      rw [List.cons_append, jn_cons p (by simp), this, jn_cons p (by simp), List.append_assoc]; rfl
theorem jn_last {ps : List (List Nat)} (h : ps ≠ []) (hp : ∀ p ∈ ps, p ≠ [] ∧ 47 ∉ p) : ∃ a c, jn47 ps = a ++ [c] ∧ c ≠ 47 := by
  have key : ∀ p : List Nat, p ≠ [] → 47 ∉ p → ∃ a c, p = a ++ [c] ∧ c ≠ 47 := by
    intro p h1 h2
    rcases List.eq_nil_or_concat p with rfl | ⟨a, c, rfl⟩
    · exact absurd rfl h1
    · rw [List.concat_eq_append] at h2 ⊢
      exact ⟨a, c, rfl, fun e => h2 (by rw [e]; simp)⟩
  rcases List.eq_nil_or_concat ps with rfl | ⟨qs, l, rfl⟩
  · exact absurd rfl h
  · rw [List.concat_eq_append] at hp ⊢
    obtain ⟨a, c, e, hc⟩ := key l (hp l (by simp)).1 (hp l (by simp)).2
    by_cases hq : qs = []
    · subst hq; exact ⟨a, c, e, hc⟩
    · rw [jn_snoc hq, e]
      exact ⟨jn47 qs ++ 47 :: a, c, by simp, hc⟩
theorem not_rep {a : List Nat} {c : Nat} (hc : c ≠ 47) (n : Nat) : a ++ [c] ++ [47] ≠ List.replicate n 47 := fun e => by
  have : c ∈ List.replicate n 47 := by rw [← e]; simp
  exact hc (List.eq_of_mem_replicate this)
theorem split_pth {r : List Nat} (hr : Root r) {ps : List (List Nat)} {l : List Nat} (hp : ∀ p ∈ ps, p ≠ [] ∧ 47 ∉ p) (hl : 47 ∉ l) :
    spH (Pth r (ps ++ [l])) = Pth r ps ∧ tl47 (Pth r (ps ++ [l])) = l := by
  by_cases hq : ps = []
  · subst hq
    show spH (r ++ l) = r ++ [] ∧ tl47 (r ++ l) = l
    rw [List.append_nil]
    rcases hr with rfl | rfl | rfl
    · have := hd_free hl
      rw [List.nil_append]
      refine ⟨?_, this.2⟩
      unfold spH; rw [this.1]; rfl
    · have := hd_app (a := []) hl
      refine ⟨?_, this.2⟩
      have e : hd47 ([47] ++ l) = [47] := this.1
      unfold spH; rw [e]; rfl
    · have := hd_app (a := [47]) hl
      refine ⟨?_, this.2⟩
      have e : hd47 ([47, 47] ++ l) = [47, 47] := this.1
      unfold spH; rw [e]; rfl
  · have e : Pth r (ps ++ [l]) = Pth r ps ++ 47 :: l := by unfold Pth; rw [jn_snoc hq, List.append_assoc]
    obtain ⟨a, c, ea, hc⟩ := jn_last hq hp
    have e2 : Pth r ps = (r ++ a) ++ [c] := by unfold Pth; rw [ea, List.append_assoc]
    have h := hd_app (a := Pth r ps) hl
    rw [e]
    refine ⟨?_, h.2⟩
    unfold spH
    rw [h.1, e2]
    rw [if_pos, rs_app hc]
    simp only [Bool.and_eq_true, bne_iff_ne, ne_eq]
    exact ⟨by simp, not_rep hc _⟩
theorem split_root {r : List Nat} (hr : Root r) : spH r = r ∧ tl47 r = [] := by
  rcases hr with rfl | rfl | rfl <;> exact ⟨by decide, by decide⟩
theorem jn_len_le (ps : List (List Nat)) (l : List Nat) : (jn47 ps).length ≤ (jn47 (ps ++ [l])).length := by
  by_cases hq : ps = []
  · subst hq; simp [jn47]
  · rw [jn_snoc hq]; simp

noncomputable def GoodNm (p : Pc) : Prop := p.2 ≠ [] ∧ (∀ c ∈ p.2, Sign c) ∧ p.2.length ≤ 1000 ∧ (p.1 = false → 47 ∉ p.2)
theorem GoodNm.enc {p : Pc} (g : GoodNm p) : enc p ≠ [] ∧ 47 ∉ enc p ∧ Oct (enc p) := by
  obtain ⟨b, cs⟩ := p
  obtain ⟨h1, h2, _, h4⟩ := g
  cases b
  · exact ⟨h1, h4 rfl, fun c hc => by have := h2 c hc; unfold Sign at this; omega⟩
  · refine ⟨by simpa [Mine.enc] using h1, fun hm => ?_, fun c hc => ?_⟩
    · obtain ⟨d, _, e⟩ := List.mem_map.mp hm; omega
    · obtain ⟨d, hd, rfl⟩ := List.mem_map.mp hc
      have := h2 d hd; unfold Sign at this; omega
noncomputable def lastN (R : List Pc) : List Nat := match R.getLast? with
  | none => []
  | some p => enc p
theorem split_R {r : List Nat} (hr : Root r) {R : List Pc} (hR : ∀ p ∈ R, GoodNm p) : spH (Pth r (R.map enc)) = Pth r (R.dropLast.map enc) ∧ tl47 (Pth r (R.map enc)) = lastN R := by
  rcases List.eq_nil_or_concat R with rfl | ⟨R', p, rfl⟩
  · have := split_root hr
    show spH (r ++ []) = r ++ [] ∧ tl47 (r ++ []) = []
    rw [List.append_nil]; exact this
  · rw [List.concat_eq_append] at hR ⊢
    have e : lastN (R' ++ [p]) = enc p := by unfold lastN; rw [List.getLast?_append]; rfl
    rw [e, List.dropLast_concat, List.map_append]
    exact split_pth hr (fun q hq => by
      obtain ⟨x, hx, rfl⟩ := List.mem_map.mp hq
      have := (hR x (by simp [hx])).enc
      exact ⟨this.1, this.2.1⟩) (hR p (by simp)).enc.2.1
theorem pth_len {r : List Nat} {R D : List Pc} : (Pth r (R.map enc)).length ≤ (Pth r ((R ++ D).map enc)).length := by
  unfold Pth
  simp only [List.length_append]
  have : (jn47 (R.map enc)).length ≤ (jn47 ((R ++ D).map enc)).length := by
    induction D generalizing R with
    | nil => simp
    | cons p D ih =>
      have h1 := jn_len_le (R.map enc) (enc p)
      have h2 := ih (R := R ++ [p])
      rw [List.append_assoc, List.map_append] at h2
      exact Nat.le_trans h1 h2
  omega
theorem pth_oct {r : List Nat} (hr : Root r) {R : List Pc} (hR : ∀ p ∈ R, GoodNm p) : Oct (Pth r (R.map enc)) := by
  unfold Pth
  refine Oct.app (by rcases hr with rfl | rfl | rfl <;> (intro c hc; simp at hc; try omega)) ?_
  induction R with
  | nil => exact Oct.nil
  | cons p R ih =>
    cases R with
    | nil => exact (hR p (by simp)).enc.2.2
    | cons q R =>
      rw [List.map_cons, jn_cons _ (by simp)]
      exact Oct.app (hR p (by simp)).enc.2.2 (Oct.cons (by omega) (ih fun x hx => hR x (by simp [hx])))
end Mine
end
section
open PySem PySem.W PyProof.Rows PySem.Calls PySem.Builtin PySem.SeqAt
set_option maxRecDepth 100000
set_option maxHeartbeats 4000000
namespace Mine
open BF

theorem TxL.rev {k : Bool} {cs : List (List Nat)} {vs : List Value} (h : TxL k cs vs) : TxL k cs.reverse vs.reverse := by
  induction h with
  | nil => exact .nil
  | cons _ ih => rw [List.reverse_cons, List.reverse_cons]; exact ih.app (.cons .nil)
theorem enc_get {p : Pc} (g : ∀ c ∈ p.2, Sign c) {i x : Nat} (h : (enc p)[i]? = some x) : ∃ c, p.2[i]? = some c ∧ Sign c ∧ (p.1 = false → x = c) ∧ (p.1 = true → x = c + 128) := by
  obtain ⟨b, cs⟩ := p
  cases b
  · (repeat ((with_reducible refine q5 _ _ ?_); clear q5 Q5)); exact ⟨x, h, g x (List.mem_of_getElem? h), fun _ => rfl, fun e => (by cases e)⟩
  · have h : (cs.map (· + 128))[i]? = some x := h
    rw [List.getElem?_map] at h
    cases hc : cs[i]? with
    | none => rw [hc] at h; cases h
    | some c => rw [hc] at h; cases h; exact ⟨c, rfl, g c (List.mem_of_getElem? hc), fun e => (by cases e), fun _ => rfl⟩
theorem lastN_app (M : List Pc) (p : Pc) : lastN (M ++ [p]) = enc p := by unfold lastN; rw [List.getLast?_append]; rfl
theorem St.but {w : World} {s₀ s : Shared} {L a : Addr} {vars : Vars} (S : St w s₀ L vars s) {h' : Heap} (k : KeepBut a s.heap h') (h0 : s₀.heap.get? a = none) (hL : L ≠ a) : St w s₀ L vars { s with heap := h' } :=
  S.kb (W := [a]) (tk := s.toks) (fun b o n e => k b o (fun q => n (by rw [q]; exact List.mem_cons_self)) e) (fun b hb => by rw [List.mem_singleton.mp hb]; exact h0) (fun hm => hL (List.mem_singleton.mp hm))
theorem jn0 (cs : List (List Nat)) (l : List Nat) (h : cs = l.map fun c => [c]) : cs.flatten = l ∧ (cs.map List.length).sum = l.length := by
  subst h
  (repeat ((with_reducible refine q5 _ _ ?_); clear q5 Q5)); exact ⟨by rw [flat1 l fun c => c]; simp, sum1 l fun c => c⟩
section
variable {A : Around} {E : Value → Shared → Prop} {w : World} {s : Shared}
theorem c_climbed {k : Bool} {r : List Nat} {NF : List Pc} {t : Tok} {Q : Value → Shared → Prop} (R : Room A 4) (B : Base w s.heap) (hr : Root r) (hN : ∀ p ∈ NF, GoodNm p) (hz : (Pth r (NF.map enc)).length ≤ 100000) (hz2 : NF.length ≤ 100000)
    (h : ∀ a ys s', Keeps s s' → s'.heap.IsList a ys.toArray → TxL false (r :: NF.map (·.2)) ys → Q (.ref a) s') :
    wpAny (model PG w) A (call (.ref 200) [tx k (Pth r (NF.map enc)) t]) Q E s := by
  (refine' enterF (binds := [(Str.ofString "path", tx k (Pth r (NF.map enc)) t)]) (by assumption) (by assumption) ?ho ?hcd ?hb ?hl ?hc ?hnd ?_ ?hco ?hgen ?hk; (case ho => k_is); (case hcd => k_is); (case hb => exact rfl); (case hl => exact locs rfl); (case hc => decide); (case hnd => exact by simp); (case hco => exact rfl); (case hgen => exact rfl); (case hk => exact rfl); intro L s₁ hF S R')
  ((repeat ((with_reducible refine q5 _ _ ?_); clear q5 Q5)); (repeat ((with_reducible refine q5 _ _ ?_); clear q5 Q5)); (with_reducible refine x_consG fun Q5 q5 => ?_); (with_reducible refine wpAny_Assign_Name ?_ ?hs9); (case hs9 => exact rfl); (with_reducible refine List_ ?_; refine args_nil ?_); (repeat ((with_reducible refine q5 _ _ ?_); clear q5 Q5)))
  have S0 := St.ext S
  (refine n_plain (by first | exact Nat.le_of_ble_eq_true rfl | simp) fun a s' k9 hn hl => ?_); have naL := ne_of_fresh hn S.some; replace S := St.to S k9; skip; clear k9
  have hn0 := fresh_of S0 hn
  clear hn S0
  have hp := hl; clear hl
  
  ((repeat ((with_reducible refine q5 _ _ ?_); clear q5 Q5)); (with_reducible refine st_loc S hF ?_ ?hL9 ?hl9 ?hp9); (case hL9 => exact rfl); (case hl9 => exact rfl); (case hp9 => exact rfl); clear S; intro s' S d9 kk9; replace hp := DP d9 hp; clear d9 kk9; (repeat ((with_reducible refine q5 _ _ ?_); clear q5 Q5)); (with_reducible refine x_consG fun Q5 q5 => ?_); (with_reducible refine PyProof.Rows.Assign_Tuple ?_ ?hs9 ?hw9); (case hs9 => exact rfl); (case hw9 => exact rfl); (with_reducible refine Call_ ?_ ?he9); (case he9 => exact rfl); (with_reducible refine' e_glob (St.bs S) ?e9 ?_ ?hg9 ?hk9 ?hx9 ?hd9); (case hg9 => exact rfl); (case hk9 => exact rfl); (case hx9 => exact rfl); (case hd9 => decide); (case e9 => k_is); (with_reducible refine cf S ?hf9 ?_ ?he9); (case he9 => exact rfl); (case hf9 => k_is); (with_reducible refine args_cons ?_ ?he9); (case he9 => exact rfl); (with_reducible refine' e_loc S ?hv9 ?_ ?hL9 ?hk9 ?hl9 ?hd9); (case hL9 => exact rfl); (case hk9 => exact rfl); (case hl9 => exact rfl); (case hd9 => decide); (case hv9 => exact rfl); (with_reducible refine args_nil ?_); (with_reducible refine And.intro (Keeps.up (St.ext S)) ?_); (repeat ((with_reducible refine q5 _ _ ?_); clear q5 Q5)))
  refine c_split (k := k) (R'.mono (by decide)) (St.bs S) (pth_oct hr hN) (by omega) fun tt t1 t2 s' k9 ht => ?_
  replace S := St.to S k9; replace hp := KP k9 hp; clear k9
  rw [(split_R hr hN).1, (split_R hr hN).2] at ht
  refine a_two S hF R'.hh ht (fun s' S2 d9 kk9 => ?_) rfl rfl rfl rfl
  clear S; have S := S2; replace hp := DP d9 hp; clear S2 d9 kk9 ht
  ((repeat ((with_reducible refine q5 _ _ ?_); clear q5 Q5)); (repeat ((with_reducible refine q5 _ _ ?_); clear q5 Q5)); (with_reducible refine x_consG fun Q5 q5 => ?_); (with_reducible refine wpAny_While ?_); (repeat ((with_reducible refine q5 _ _ ?_); clear q5 Q5)))
  refine while_rule (σ := (List Pc × List Pc × List Value) × (Tok × Tok)) [a] (fun σ => [(Str.ofString "names", .ref a), (Str.ofString "place", tx k (Pth r (σ.1.1.dropLast.map enc)) σ.2.1), (Str.ofString "name", tx k (lastN σ.1.1) σ.2.2)])
    (fun n σ h => NF = σ.1.1 ++ σ.1.2.1 ∧ n = σ.1.1.length ∧ h.PlainList a σ.1.2.2.toArray ∧ TxL false (σ.1.2.1.reverse.map (·.2)) σ.1.2.2)
    ((NF, [], []), (_, _)) NF.length S ⟨rfl, rfl, rfl, trivial⟩ ⟨by simp, rfl, hp, .nil⟩ ?_
  clear hp
  rintro n ⟨⟨M, D, us⟩, tp, tn⟩ s₁ E' ⟨hM, hn, hp, hu⟩ S K
  dsimp only at S hM hn hp hu
  have kb := KB.refl [L, a] s₁.heap
  have hMg : ∀ p ∈ M, GoodNm p := fun p hp => hN p (by rw [hM]; simp [hp])
  rcases List.eq_nil_or_concat M with rfl | ⟨M', p, rfl⟩
  · have e1 : lastN [] = [] := rfl
    have e2 : Pth r ((List.dropLast ([] : List Pc)).map enc) = r := by unfold Pth; simp [jn47]
    rw [e1, e2] at S
    ((repeat ((with_reducible refine q5 _ _ ?_); clear q5 Q5)); (with_reducible refine isTrue_plain ?_ ?he9); (case he9 => exact rfl); (with_reducible refine' e_loc S ?hv9 ?_ ?hL9 ?hk9 ?hl9 ?hd9); (case hL9 => exact rfl); (case hk9 => exact rfl); (case hl9 => exact rfl); (case hd9 => decide); (case hv9 => exact rfl); (with_reducible refine truthy_tx ?hsz9 ?_); (case hsz9 => first | assumption | omega | (simp only [List.length_append, List.length_cons, List.length_nil]; omega)); intro s' k9; replace S := St.to S k9; replace hp := KP k9 hp; clear k9; (repeat ((with_reducible refine q5 _ _ ?_); clear q5 Q5)))
    intro s₃ e
    subst e
    dsimp only
    have hro : Oct r := by rcases hr with rfl | rfl | rfl <;> (intro c hc; simp at hc; try omega)
    have hrl : r.length ≤ 2 := by rcases hr with rfl | rfl | rfl <;> simp
    have hrs : ∀ c ∈ r, Sign c := by rcases hr with rfl | rfl | rfl <;> (intro c hc; simp at hc; try (subst hc; exact ⟨by decide, by decide⟩))
    have hM : NF = D := by simpa using hM
    subst hM
    have hul : us.length ≤ 100000 := by
      have := hu.len; simp at this; omega
    
    ((repeat ((with_reducible refine q5 _ _ ?_); clear q5 Q5)); (repeat ((with_reducible refine q5 _ _ ?_); clear q5 Q5)); (with_reducible refine x_consG fun Q5 q5 => ?_); (with_reducible refine wpAny_Return_some ?_; refine wpAny_BinOp ?_; refine List_ ?_); (with_reducible refine args_cons ?_ ?he9); (case he9 => exact rfl); (with_reducible refine' MethodCall_ ?_ ?he9); (case he9 => exact rfl); (with_reducible refine l_0 ?_);  intro t s' k9; replace S := St.to S k9; replace hp := KP k9 hp; clear k9; (with_reducible refine gm_jn ?_); (with_reducible refine cm1 ?_ ?he9 ?hp9); (case he9 => exact rfl); (case hp9 => exact rfl); (with_reducible refine args_cons ?_ ?he9); (case he9 => exact rfl); (with_reducible refine e_comp (cl := []) ?_ ?hc9 ?hk9 ?hn9 ?hs9); (case hc9 => exact rfl); (case hk9 => exact rfl); (case hn9 => decide); (case hs9 => intro _; exact rfl); (with_reducible refine' e_loc S ?hv9 ?_ ?hL9 ?hk9 ?hl9 ?hd9); (case hL9 => exact rfl); (case hk9 => exact rfl); (case hl9 => exact rfl); (case hd9 => decide); (case hv9 => exact rfl); (repeat ((with_reducible refine q5 _ _ ?_); clear q5 Q5)))
    refine it_tx hro R'.hh fun I s9 T => ?_
    refine comp_go (F := fun bad h i y => ∃ c, r[i]? = some c ∧ ∃ t, y = tx false [c] t) (fun _ _ _ _ _ x _ => x) (fun _ _ _ _ x => x) T (by simp) (St.bs S) (by omega) (by decide) rfl rfl ?_ ?_
    · rintro C i v s₃ E' hi ⟨c, u, hc, rfl⟩ kk S
      refine gen fun Q8 q8 => ?_
      have hsg := hrs c (List.mem_of_getElem? hc)
      
      ((repeat ((with_reducible refine q5 _ _ ?_); clear q5 Q5)); (with_reducible refine Call_ ?_ ?he9); (case he9 => exact rfl); (with_reducible refine' e_glob (St.bs S) ?e9 ?_ ?hg9 ?hk9 ?hx9 ?hd9); (case hg9 => exact rfl); (case hk9 => exact rfl); (case hx9 => exact rfl); (case hd9 => decide); (case e9 => k_is); (with_reducible refine cf S ?hf9 ?_ ?he9); (case he9 => exact rfl); (case hf9 => k_is); (with_reducible refine args_cons ?_ ?he9); (case he9 => exact rfl); (with_reducible refine' e_loc S ?hv9 ?_ ?hL9 ?hk9 ?hl9 ?hd9); (case hL9 => exact rfl); (case hk9 => exact rfl); (case hl9 => exact rfl); (case hd9 => decide); (case hv9 => exact rfl); (with_reducible refine args_nil ?_); (with_reducible refine And.intro (Keeps.up (St.ext S)) ?_); (repeat ((with_reducible refine q5 _ _ ?_); clear q5 Q5)))
      refine c_unctrl (k := k) R' (St.bs S) hsg.1 hsg.2 fun t' s' k9 => ?_
      replace S := St.to S k9; clear k9
      (repeat ((with_reducible refine q5 _ _ ?_); clear q5 Q5)); exact q8 _ _ ⟨St.ext S, fun bad hb => ⟨c, hc, t', rfl⟩⟩
      
    · intro DD ys s₃ k9 hD hlD hlen hf
      replace S := St.to S k9; replace hp := KP k9 hp; clear k9
      have hT : TxL false (r.map fun c => [c]) ys := TxL.ofGet (by rw [hlen, List.length_map]) (fun i y hy => by
        obtain ⟨c, hc, t, e⟩ := hf i y hy
        (repeat ((with_reducible refine q5 _ _ ?_); clear q5 Q5)); exact ⟨[c], by rw [List.getElem?_map, hc]; rfl, t, e⟩)
      obtain ⟨j1, j2⟩ := jn0 _ r rfl
      ((repeat ((with_reducible refine q5 _ _ ?_); clear q5 Q5)); (with_reducible refine args_nil ?_); (repeat ((with_reducible refine q5 _ _ ?_); clear q5 Q5)))
      refine u_join0 hlD hT (by rw [j2]; omega) fun t' s' k9 => ?_
      replace S := St.to S k9; replace hp := KP k9 hp; clear k9
      rw [j1]
      ((repeat ((with_reducible refine q5 _ _ ?_); clear q5 Q5)); (with_reducible refine args_nil ?_); (repeat ((with_reducible refine q5 _ _ ?_); clear q5 Q5)))
      (refine n_plain (by first | exact Nat.le_of_ble_eq_true rfl | simp) fun a s' k9 hn hl => ?_); have naL := ne_of_fresh hn S.some; replace S := St.to S k9; replace hp := KP k9 hp; clear k9
      
      ((repeat ((with_reducible refine q5 _ _ ?_); clear q5 Q5)); (with_reducible refine Subscript_ ?_); (with_reducible refine' e_loc S ?hv9 ?_ ?hL9 ?hk9 ?hl9 ?hd9); (case hL9 => exact rfl); (case hk9 => exact rfl); (case hl9 => exact rfl); (case hd9 => decide); (case hv9 => exact rfl); (with_reducible refine e_slice ?_; refine p_none ?_; refine p_none ?_; refine p_some ?_; refine UnaryOp_ ?_); (with_reducible refine e_int ?_);  intro t s' k9; replace S := St.to S k9; replace hp := KP k9 hp; replace hl := KP k9 hl; clear k9; (with_reducible refine u_neg ?_);  intro t s' k9; replace S := St.to S k9; replace hp := KP k9 hp; replace hl := KP k9 hl; clear k9; (repeat ((with_reducible refine q5 _ _ ?_); clear q5 Q5)))
      (intro a9 s' k9 hsl; replace S := St.to S k9; replace hp := KP k9 hp; replace hl := KP k9 hl; clear k9)
      refine sub_rev hp.isList hsl (by omega) fun b s' k9 hn' hb => ?_
      replace S := St.to S k9; replace hp := KP k9 hp; replace hl := KP k9 hl; clear k9
      (repeat ((with_reducible refine q5 _ _ ?_); clear q5 Q5))
      refine u_add hl.isList hb (by simp; omega) fun c s' k9 hn2 hc => ?_
      replace S := St.to S k9
      have hu' := hu.rev
      rw [← List.map_reverse, List.reverse_reverse] at hu'
      (repeat ((with_reducible refine q5 _ _ ?_); clear q5 Q5)); exact h _ _ _ (St.ext S) hc.isList (.cons hu')
      
    
  · rw [List.concat_eq_append] at *
    have hg := hMg p (by simp)
    have he := hg.enc
    have hel : (enc p).length ≤ 1000 := by rw [enc_len]; exact hg.2.2.1
    rw [lastN_app, List.dropLast_concat] at S
    
    ((repeat ((with_reducible refine q5 _ _ ?_); clear q5 Q5)); (with_reducible refine isTrue_plain ?_ ?he9); (case he9 => exact rfl); (with_reducible refine' e_loc S ?hv9 ?_ ?hL9 ?hk9 ?hl9 ?hd9); (case hL9 => exact rfl); (case hk9 => exact rfl); (case hl9 => exact rfl); (case hd9 => decide); (case hv9 => exact rfl); (with_reducible refine truthy_tx ?hsz9 ?_); (case hsz9 => first | assumption | omega | (simp only [List.length_append, List.length_cons, List.length_nil]; omega)); intro s' k9; replace S := St.to S k9; replace hp := KP k9 hp; replace kb := kb.keeps k9; clear k9; (repeat ((with_reducible refine q5 _ _ ?_); clear q5 Q5)))
    rw [show (enc p).isEmpty = false from by simp [he.1]]
    ((repeat ((with_reducible refine q5 _ _ ?_); clear q5 Q5)); (with_reducible refine ite_nt ?_); (repeat ((with_reducible refine q5 _ _ ?_); clear q5 Q5)); (with_reducible refine x_consG fun Q5 q5 => ?_); (with_reducible refine wpAny_Expr_any ?_ ?hi9 ?hs9); (case hi9 => exact rfl); (case hs9 => exact rfl); (with_reducible refine' MethodCall_ ?_ ?he9); (case he9 => exact rfl); (with_reducible refine' e_loc S ?hv9 ?_ ?hL9 ?hk9 ?hl9 ?hd9); (case hL9 => exact rfl); (case hk9 => exact rfl); (case hl9 => exact rfl); (case hd9 => decide); (case hv9 => exact rfl); (repeat ((with_reducible refine q5 _ _ ?_); clear q5 Q5)))
    refine gm_app hp ?_
    ((repeat ((with_reducible refine q5 _ _ ?_); clear q5 Q5)); (with_reducible refine cm1 ?_ ?he9 ?hp9); (case he9 => exact rfl); (case hp9 => exact rfl); (with_reducible refine args_cons ?_ ?he9); (case he9 => exact rfl); (with_reducible refine' MethodCall_ ?_ ?he9); (case he9 => exact rfl); (with_reducible refine l_0 ?_);  intro t s' k9; replace S := St.to S k9; replace hp := KP k9 hp; replace kb := kb.keeps k9; clear k9; (with_reducible refine gm_jn ?_); (with_reducible refine cm1 ?_ ?he9 ?hp9); (case he9 => exact rfl); (case hp9 => exact rfl); (with_reducible refine args_cons ?_ ?he9); (case he9 => exact rfl); (with_reducible refine e_comp (cl := []) ?_ ?hc9 ?hk9 ?hn9 ?hs9); (case hc9 => exact rfl); (case hk9 => exact rfl); (case hn9 => decide); (case hs9 => intro _; exact rfl); (with_reducible refine' e_loc S ?hv9 ?_ ?hL9 ?hk9 ?hl9 ?hd9); (case hL9 => exact rfl); (case hk9 => exact rfl); (case hl9 => exact rfl); (case hd9 => decide); (case hv9 => exact rfl); (repeat ((with_reducible refine q5 _ _ ?_); clear q5 Q5)))
    refine it_tx he.2.2 R'.hh fun I s9 T => ?_
    refine comp_go (F := fun bad h i y => ∃ c, p.2[i]? = some c ∧ ∃ t, y = tx false [c] t) (fun _ _ _ _ _ x _ => x) (fun _ _ _ _ x => x) T (by simp) (St.bs S) (by omega) (by decide) rfl rfl ?_ ?_
    · rintro C i v s₃ E' hi ⟨x, u, hx, rfl⟩ kk S
      refine gen fun Q8 q8 => ?_
      obtain ⟨c, hc, hsg, hx1, hx2⟩ := enc_get hg.2.1 hx
      
      ((repeat ((with_reducible refine q5 _ _ ?_); clear q5 Q5)); (with_reducible refine IfExp_ ?_); (with_reducible refine isTrue_plain ?_ ?he9); (case he9 => exact rfl); (with_reducible refine Call_ ?_ ?he9); (case he9 => exact rfl); (with_reducible refine' e_glob (St.bs S) ?e9 ?_ ?hg9 ?hk9 ?hx9 ?hd9); (case hg9 => exact rfl); (case hk9 => exact rfl); (case hx9 => exact rfl); (case hd9 => decide); (case e9 => k_is); (with_reducible refine cf S ?hf9 ?_ ?he9); (case he9 => exact rfl); (case hf9 => k_is); (with_reducible refine args_cons ?_ ?he9); (case he9 => exact rfl); (with_reducible refine' e_loc S ?hv9 ?_ ?hL9 ?hk9 ?hl9 ?hd9); (case hL9 => exact rfl); (case hk9 => exact rfl); (case hl9 => exact rfl); (case hd9 => decide); (case hv9 => exact rfl); (with_reducible refine args_nil ?_); (with_reducible refine And.intro (Keeps.up (St.ext S)) ?_); (repeat ((with_reducible refine q5 _ _ ?_); clear q5 Q5)))
      refine c_ismeta (k := k) (x := x) (R'.mono (by decide)) (St.bs S) fun s' k9 => ?_
      replace S := St.to S k9; clear k9
      ((repeat ((with_reducible refine q5 _ _ ?_); clear q5 Q5)); (with_reducible refine wpAny_truthy_bool ?_); (repeat ((with_reducible refine q5 _ _ ?_); clear q5 Q5)))
      cases hb : p.1
      · have hx := hx1 hb
        subst hx
        rw [decide_eq_false (by unfold Sign at hsg; omega)]
        ((repeat ((with_reducible refine q5 _ _ ?_); clear q5 Q5)); (with_reducible refine ite_f ?_); (with_reducible refine Call_ ?_ ?he9); (case he9 => exact rfl); (with_reducible refine' e_glob (St.bs S) ?e9 ?_ ?hg9 ?hk9 ?hx9 ?hd9); (case hg9 => exact rfl); (case hk9 => exact rfl); (case hx9 => exact rfl); (case hd9 => decide); (case e9 => k_is); (with_reducible refine cf S ?hf9 ?_ ?he9); (case he9 => exact rfl); (case hf9 => k_is); (with_reducible refine args_cons ?_ ?he9); (case he9 => exact rfl); (with_reducible refine' e_loc S ?hv9 ?_ ?hL9 ?hk9 ?hl9 ?hd9); (case hL9 => exact rfl); (case hk9 => exact rfl); (case hl9 => exact rfl); (case hd9 => decide); (case hv9 => exact rfl); (with_reducible refine args_nil ?_); (with_reducible refine And.intro (Keeps.up (St.ext S)) ?_); (repeat ((with_reducible refine q5 _ _ ?_); clear q5 Q5)))
        refine c_unctrl (k := k) R' (St.bs S) hsg.1 hsg.2 fun t' s' k9 => ?_
        replace S := St.to S k9; clear k9
        (repeat ((with_reducible refine q5 _ _ ?_); clear q5 Q5)); exact q8 _ _ ⟨St.ext S, fun bad hb => ⟨x, hc, t', rfl⟩⟩
      · have hx := hx2 hb
        subst hx
        rw [decide_eq_true (by unfold Sign at hsg; omega)]
        ((repeat ((with_reducible refine q5 _ _ ?_); clear q5 Q5)); (with_reducible refine ite_t ?_; refine Subscript_ ?_); (with_reducible refine Call_ ?_ ?he9); (case he9 => exact rfl); (with_reducible refine' e_glob (St.bs S) ?e9 ?_ ?hg9 ?hk9 ?hx9 ?hd9); (case hg9 => exact rfl); (case hk9 => exact rfl); (case hx9 => exact rfl); (case hd9 => decide); (case e9 => k_is); (with_reducible refine cf S ?hf9 ?_ ?he9); (case he9 => exact rfl); (case hf9 => k_is); (with_reducible refine args_cons ?_ ?he9); (case he9 => exact rfl); (with_reducible refine' e_loc S ?hv9 ?_ ?hL9 ?hk9 ?hl9 ?hd9); (case hL9 => exact rfl); (case hk9 => exact rfl); (case hl9 => exact rfl); (case hd9 => decide); (case hv9 => exact rfl); (with_reducible refine args_nil ?_); (with_reducible refine And.intro (Keeps.up (St.ext S)) ?_); (repeat ((with_reducible refine q5 _ _ ?_); clear q5 Q5)))
        refine c_unctrlM (k := k) R' (St.bs S) hsg.1 hsg.2 fun t' s' k9 => ?_
        replace S := St.to S k9; clear k9
        ((repeat ((with_reducible refine q5 _ _ ?_); clear q5 Q5)); (with_reducible refine e_slice ?_; refine p_some ?_); (with_reducible refine e_int ?_);  intro t s' k9; replace S := St.to S k9; skip; clear k9; (with_reducible refine p_none ?_; refine p_none ?_); (repeat ((with_reducible refine q5 _ _ ?_); clear q5 Q5)))
        (intro a9 s' k9 hsl; replace S := St.to S k9; skip; clear k9)
        (refine sub_txE (by assumption) (.int _ _) (.none) (by first | assumption | omega | (simp only [List.length_append, List.length_cons, List.length_nil]; omega)) (cut_from [33, c] 1) fun t s' k9 => ?_); replace S := St.to S k9; skip; clear k9 hsl
        (repeat ((with_reducible refine q5 _ _ ?_); clear q5 Q5)); exact q8 _ _ ⟨St.ext S, fun bad hb => ⟨c, hc, t, rfl⟩⟩
      
    · intro DD ys s₃ k9 hD hlD hlen hf
      replace S := St.to S k9; replace hp := KP k9 hp; replace kb := kb.keeps k9; clear k9
      have hT : TxL false (p.2.map fun c => [c]) ys := TxL.ofGet (by rw [hlen, List.length_map, enc_len]) (fun i y hy => by
        obtain ⟨c, hc, t, e⟩ := hf i y hy
        (repeat ((with_reducible refine q5 _ _ ?_); clear q5 Q5)); exact ⟨[c], by rw [List.getElem?_map, hc]; rfl, t, e⟩)
      obtain ⟨j1, j2⟩ := jn0 _ p.2 rfl
      ((repeat ((with_reducible refine q5 _ _ ?_); clear q5 Q5)); (with_reducible refine args_nil ?_); (repeat ((with_reducible refine q5 _ _ ?_); clear q5 Q5)))
      refine u_join0 hlD hT (by rw [j2]; have := hg.2.2.1; omega) fun t' s' k9 => ?_
      replace S := St.to S k9; replace hp := KP k9 hp; replace kb := kb.keeps k9; clear k9
      rw [j1]
      ((repeat ((with_reducible refine q5 _ _ ?_); clear q5 Q5)); (with_reducible refine args_nil ?_); (repeat ((with_reducible refine q5 _ _ ?_); clear q5 Q5)))
      have hul : us.length ≤ 100000 := by
        have := hu.len; have := congrArg List.length hM; simp at *; omega
      refine c_app hp (by omega) fun h' hp' k' => ?_
      replace S := S.but k' hn0 naL
      replace kb : KB [L, a] s₁.heap h' := kb.trans fun b o n e => k' b o (fun q => n (by rw [q]; simp)) e
      clear hp; have hp := hp'; clear hp' k'
      ((repeat ((with_reducible refine q5 _ _ ?_); clear q5 Q5)); (repeat ((with_reducible refine q5 _ _ ?_); clear q5 Q5)); (with_reducible refine x_consG fun Q5 q5 => ?_); (with_reducible refine PyProof.Rows.Assign_Tuple ?_ ?hs9 ?hw9); (case hs9 => exact rfl); (case hw9 => exact rfl); (with_reducible refine Call_ ?_ ?he9); (case he9 => exact rfl); (with_reducible refine' e_glob (St.bs S) ?e9 ?_ ?hg9 ?hk9 ?hx9 ?hd9); (case hg9 => exact rfl); (case hk9 => exact rfl); (case hx9 => exact rfl); (case hd9 => decide); (case e9 => k_is); (with_reducible refine cf S ?hf9 ?_ ?he9); (case he9 => exact rfl); (case hf9 => k_is); (with_reducible refine args_cons ?_ ?he9); (case he9 => exact rfl); (with_reducible refine' e_loc S ?hv9 ?_ ?hL9 ?hk9 ?hl9 ?hd9); (case hL9 => exact rfl); (case hk9 => exact rfl); (case hl9 => exact rfl); (case hd9 => decide); (case hv9 => exact rfl); (with_reducible refine args_nil ?_); (with_reducible refine And.intro (Keeps.up (St.ext S)) ?_); (repeat ((with_reducible refine q5 _ _ ?_); clear q5 Q5)))
      have hM' : ∀ q ∈ M', GoodNm q := fun q hq => hMg q (by simp [hq])
      have hzz : (Pth r (M'.map enc)).length ≤ 100000 := by
        refine Nat.le_trans (pth_len (D := p :: D)) ?_
        rw [hM] at hz; simpa using hz
      refine c_split (k := k) (R'.mono (by decide)) (St.bs S) (pth_oct hr hM') (by omega) fun tt t1 t2 s' k9 ht => ?_
      replace S := St.to S k9; replace hp := KP k9 hp; replace kb := kb.keeps k9; clear k9
      rw [(split_R hr hM').1, (split_R hr hM').2] at ht
      refine a_two S hF R'.hh ht (fun s' S2 d9 kk9 => ?_) rfl rfl rfl rfl
      clear S; have S := S2; replace hp := DP d9 hp; replace kb := kb.trans (KB.but kk9 List.mem_cons_self); clear S2 d9 kk9 ht
      ((repeat ((with_reducible refine q5 _ _ ?_); clear q5 Q5)); (repeat ((with_reducible refine q5 _ _ ?_); clear q5 Q5)); (with_reducible refine wpAny_execs_nil ?_); (repeat ((with_reducible refine q5 _ _ ?_); clear q5 Q5)))
      (repeat ((with_reducible refine q5 _ _ ?_); clear q5 Q5)); exact ⟨.inl rfl, M'.length, ((M', p :: D, _), (_, _)), by rw [hn, List.length_append]; exact Nat.lt_succ_self _, ⟨by simpa using hM, rfl, hp, by
        show TxL false (((p :: D).reverse).map (·.2)) _
        rw [List.reverse_cons, List.map_append]
        exact hu.app (.cons .nil)⟩, S.sub ⟨rfl, rfl, rfl, trivial⟩, kb⟩
    
  
end
end Mine
end
section
open PySem PySem.W PyProof.Rows PySem.Calls PySem.Builtin PySem.SeqAt
set_option maxRecDepth 100000
set_option maxHeartbeats 4000000
namespace Mine
open BF

noncomputable def join2 (p b : List Nat) : List Nat := if sw b then b else if p.isEmpty then b else if ew p then p ++ b else p ++ 47 :: b
noncomputable def joinL (a : List Nat) (bs : List (List Nat)) : List Nat := bs.foldl join2 a
theorem TxL.getV {k : Bool} {cs : List (List Nat)} {vs : List Value} (h : TxL k cs vs) : ∀ {i : Nat} {v : Value}, vs[i]? = some v → ∃ c t, cs[i]? = some c ∧ v = tx k c t := by
  induction h with
  | nil => intro i v e; simp at e
  | cons _ ih =>
    intro i v e
    cases i with
    | zero => simp at e; subst e; exact ⟨_, _, rfl, rfl⟩
    | succ i => rw [List.getElem?_cons_succ] at e; obtain ⟨c, t, hc, q⟩ := ih e; exact ⟨c, t, by rw [List.getElem?_cons_succ]; exact hc, q⟩
theorem take_snoc {α : Type} {l : List α} {i : Nat} {x : α} (h : l[i]? = some x) : l.take (i + 1) = l.take i ++ [x] := by
  rw [List.take_add_one, h]; rfl
section
variable {A : Around} {E : Value → Shared → Prop} {w : World} {s : Shared}
theorem enterV {n : Nat} {name qual : Str} {params : Arguments} {body : List Stmt} {scope : Scope} {dV kV doc pm cdv ct oc : Value} {an od : Option Addr} {osl : Array (Option Value)} {f : Addr} {args ps : List Value} {binds : Value → List (Str × Value)}
    {Q : Value → Shared → Prop} (R : Room A (n + 1)) (B : Base w s.heap) (hsz : ps.length ≤ 1048576)
    (ho : (KK w.params).lookup f = some ⟨oc, od, .func (fnOf name qual params body scope dV kV doc pm an cdv ct), osl⟩) (hcd : codeIn (KK w.params) cdv qual = true)
    (hbind : bindArgs (fnOf name qual params body scope dV kV doc pm an cdv ct) ⟨args, []⟩ = (newTuple ps >>= fun v => pure (binds v))) (hloc : ∀ v, ∀ y ∈ binds v, scope.names.lookup y.1 = some .local)
    (hcell : ∀ x ∈ scope.names, x.2 ≠ .cell) (hnd : ∀ v, ((binds v).map (·.1)).Nodup)
    (h : ∀ t L s₁, s.heap.get? L = none → L ≠ t → s₁.heap.IsTuple t ps.toArray → St w s L (binds (.ref t)) s₁ → Room (A.deeper (envOf qual scope L f cdv)) n →
      wpAny (model PG w) (A.deeper (envOf qual scope L f cdv)) (execs body (envOf qual scope L f cdv)) (fun fl s' => Q (retOf fl) s') (fun _ _ => False) s₁)
    (hco : scope.isCoroutine = false) (hgen : scope.isGenerator = false) (hk : scope.kind = .function) :
    wpAny (model PG w) A (call (.ref f) args) Q E s := by
  refine wpAny_call ?_
  refine codeAny_call_function (fd := fnOf name qual params body scope dV kV doc pm an cdv ct) (body := body) (by have := R.dp; show A.depth < 1000; omega) (B.k _ _ ho) rfl hco hgen rfl (codeRec_of B.k hcd) ?_
  rw [hbind]
  refine wpAny_bind (n_tup hsz fun t s' k9 hn ht => wpAny_pure ?_)
  have hlim := B.nolimit.keeps (Keeps.up k9)
  refine wpAny_newFunctionEnv hcell (hloc _) (fun h₀ hns₀ hsb₀ => ⟨hlim.fresh _ hsb₀, codeAny_func ?_⟩) hk
  have hk0 : ∀ b o, s'.heap.get? b = some o → h₀.get? b = some o := fun b o e => hsb₀.extBut b o (Nat.ne_of_lt (Heap.lt_size e)) (Heap.get?_push_of_some _ e)
  have hF0 := get_none_size s'.heap
  refine wpAny_mono (h t s'.heap.objs.size { s' with heap := h₀, toks := s'.toks + (binds (.ref t)).length } (fresh_of k9 hF0) (Ne.symm (ne_of_fresh hF0 (IsTuple.some ht))) (tup ht hk0) ⟨Keeps.trans k9 ⟨_, _, rfl, hk0⟩, ⟨_, hns₀, fun p hp => ?_⟩, B⟩ (R.deeper _)) (fun fl s' q => ?_) fun _ _ x => x.elim
  · show (binds (.ref t)).reverse.lookup p.1 = some p.2
    have hnd := hnd (.ref t)
    have key : ∀ (l : List (Str × Value)), (l.map (·.1)).Nodup → p ∈ l → l.lookup p.1 = some p.2 := by
      intro l hl hm
      clear h hloc hbind hns₀ hsb₀ hk0
      induction l with
      | nil => cases hm
      | cons q r ih =>
        obtain ⟨y, u⟩ := q
        rw [List.lookup_cons]
        rcases List.mem_cons.mp hm with rfl | hm
        · simp
        · rw [List.map_cons, List.nodup_cons] at hl
          have hne : (p.1 == y) = false := by
            cases e : p.1 == y with
            | false => rfl
            | true => exact absurd (List.mem_map_of_mem (f := (·.1)) hm) (by rw [eq_of_beq e]; exact hl.1)
          rw [hne]; exact ih hl.2 hm
    refine key _ ?_ (List.mem_reverse.mpr hp)
    rw [List.map_reverse]; unfold List.Nodup; rw [List.pairwise_reverse]; exact List.Pairwise.imp (fun h => Ne.symm h) hnd
  · cases fl <;> exact q
theorem jbind {name qual : Str} {body : List Stmt} {scope : Scope} {kV doc pm cdv ct : Value} {an : Option Addr} {p1 p2 : Pos} (v : Value) (vs : List Value) :
    bindArgs (fnOf name qual { posonlyargs := [], args := [{ arg := Str.ofString "a", annotation := none, pos := p1 }], vararg := some { arg := Str.ofString "p", annotation := none, pos := p2 }, kwonlyargs := [], kw_defaults := [], kwarg := none, defaults := [] } body scope .none kV doc pm an cdv ct) ⟨v :: vs, []⟩ = (newTuple vs >>= fun u => pure [(Str.ofString "a", v), (Str.ofString "p", u)]) := by
  cases vs <;> rfl
theorem c_join {k : Bool} {a : List Nat} {bs : List (List Nat)} {ta : Tok} {vs : List Value} {Q : Value → Shared → Prop} (R : Room A 2) (B : Base w s.heap) (oa : Oct a) (ob : ∀ b ∈ bs, Oct b) (la : a.length ≤ 1000) (lb : ∀ b ∈ bs, b.length ≤ 1000) (hn : bs.length ≤ 500)
    (hv : TxL k bs vs) (h : ∀ t s', Keeps s s' → Q (tx k (joinL a bs) t) s') :
    wpAny (model PG w) A (call (.ref 115) (tx k a ta :: vs)) Q E s := by
  (refine' enterV (ps := vs) (binds := fun v => [(Str.ofString "a", tx k a ta), (Str.ofString "p", v)]) (by assumption) (by assumption) ?hz ?ho ?hcd ?hb ?hl ?hc ?hnd ?_ ?hco ?hgen ?hk; (case hz => rw [hv.len]; omega); (case ho => k_is); (case hcd => k_is); (case hb => exact jbind _ _); (case hl => intro v; exact locs rfl); (case hc => decide); (case hnd => intro v; show [Str.ofString "a", Str.ofString "p"].Nodup; decide); (case hco => exact rfl); (case hgen => exact rfl); (case hk => exact rfl); intro tu L s₁ hF naL ht S R')
  
  ((repeat ((with_reducible refine q5 _ _ ?_); clear q5 Q5)); (repeat ((with_reducible refine q5 _ _ ?_); clear q5 Q5)); (with_reducible refine x_consG fun Q5 q5 => ?_); (with_reducible refine wpAny_Assign_Name ?_ ?hs9); (case hs9 => exact rfl); (with_reducible refine Call_ ?_ ?he9); (case he9 => exact rfl); (with_reducible refine' e_glob (St.bs S) ?e9 ?_ ?hg9 ?hk9 ?hx9 ?hd9); (case hg9 => exact rfl); (case hk9 => exact rfl); (case hx9 => exact rfl); (case hd9 => decide); (case e9 => k_is); (with_reducible refine cf S ?hf9 ?_ ?he9); (case he9 => exact rfl); (case hf9 => k_is); (with_reducible refine args_cons ?_ ?he9); (case he9 => exact rfl); (with_reducible refine' e_loc S ?hv9 ?_ ?hL9 ?hk9 ?hl9 ?hd9); (case hL9 => exact rfl); (case hk9 => exact rfl); (case hl9 => exact rfl); (case hd9 => decide); (case hv9 => exact rfl); (with_reducible refine args_nil ?_); (with_reducible refine And.intro (Keeps.up (St.ext S)) ?_); (repeat ((with_reducible refine q5 _ _ ?_); clear q5 Q5)))
  refine c_fspath R' (St.bs S) fun s' k9 => ?_
  replace S := St.to S k9; replace ht := KT k9 ht; clear k9
  ((repeat ((with_reducible refine q5 _ _ ?_); clear q5 Q5)); (with_reducible refine st_loc S hF ?_ ?hL9 ?hl9 ?hp9); (case hL9 => exact rfl); (case hl9 => exact rfl); (case hp9 => exact rfl); clear S; intro s' S d9 kk9; replace ht := DT d9 ht; clear d9 kk9; (repeat ((with_reducible refine q5 _ _ ?_); clear q5 Q5)); (with_reducible refine x_consG fun Q5 q5 => ?_); (with_reducible refine wpAny_Assign_Name ?_ ?hs9); (case hs9 => exact rfl); (with_reducible refine Call_ ?_ ?he9); (case he9 => exact rfl); (with_reducible refine' e_glob (St.bs S) ?e9 ?_ ?hg9 ?hk9 ?hx9 ?hd9); (case hg9 => exact rfl); (case hk9 => exact rfl); (case hx9 => exact rfl); (case hd9 => decide); (case e9 => k_is); (with_reducible refine cf S ?hf9 ?_ ?he9); (case he9 => exact rfl); (case hf9 => k_is); (with_reducible refine args_cons ?_ ?he9); (case he9 => exact rfl); (with_reducible refine' e_loc S ?hv9 ?_ ?hL9 ?hk9 ?hl9 ?hd9); (case hL9 => exact rfl); (case hk9 => exact rfl); (case hl9 => exact rfl); (case hd9 => decide); (case hv9 => exact rfl); (with_reducible refine args_nil ?_); (with_reducible refine And.intro (Keeps.up (St.ext S)) ?_); (repeat ((with_reducible refine q5 _ _ ?_); clear q5 Q5)))
  refine c_get_sep R' (St.bs S) fun ts s' k9 => ?_
  replace S := St.to S k9; replace ht := KT k9 ht; clear k9
  ((repeat ((with_reducible refine q5 _ _ ?_); clear q5 Q5)); (with_reducible refine st_loc S hF ?_ ?hL9 ?hl9 ?hp9); (case hL9 => exact rfl); (case hl9 => exact rfl); (case hp9 => exact rfl); clear S; intro s' S d9 kk9; replace ht := DT d9 ht; clear d9 kk9; (repeat ((with_reducible refine q5 _ _ ?_); clear q5 Q5)); (with_reducible refine x_consG fun Q5 q5 => ?_); (with_reducible refine wpAny_Assign_Name ?_ ?hs9); (case hs9 => exact rfl); (with_reducible refine' e_loc S ?hv9 ?_ ?hL9 ?hk9 ?hl9 ?hd9); (case hL9 => exact rfl); (case hk9 => exact rfl); (case hl9 => exact rfl); (case hd9 => decide); (case hv9 => exact rfl); (with_reducible refine st_loc S hF ?_ ?hL9 ?hl9 ?hp9); (case hL9 => exact rfl); (case hl9 => exact rfl); (case hp9 => exact rfl); clear S; intro s' S d9 kk9; replace ht := DT d9 ht; clear d9 kk9; (repeat ((with_reducible refine q5 _ _ ?_); clear q5 Q5)); (with_reducible refine x_consG fun Q5 q5 => ?_); (repeat ((with_reducible refine q5 _ _ ?_); clear q5 Q5)))
  refine wpAny_Try_except ?_
  ((repeat ((with_reducible refine q5 _ _ ?_); clear q5 Q5)); (repeat ((with_reducible refine q5 _ _ ?_); clear q5 Q5)); (with_reducible refine x_consG fun Q5 q5 => ?_); (with_reducible refine wpAny_For ?_ ?hs9); (case hs9 => intro _; exact rfl); (with_reducible refine' e_loc S ?hv9 ?_ ?hL9 ?hk9 ?hl9 ?hd9); (case hL9 => exact rfl); (case hk9 => exact rfl); (case hl9 => exact rfl); (case hd9 => decide); (case hv9 => exact rfl); (repeat ((with_reducible refine q5 _ _ ?_); clear q5 Q5)))
  refine it_tuple ht R'.hh fun I s9 T => ?_
  refine for_rule (σ := List Nat × Tok) [] (fun σ => [(Str.ofString "sep", tx k [47] ts), (Str.ofString "path", tx k σ.1 σ.2)])
    (fun i σ _ => σ.1 = joinL a (bs.take i) ∧ σ.1.length ≤ 1001 * (i + 1) ∧ Oct σ.1) (a, _) T S hF (by simp) (by simp) (by simp; exact Ne.symm naL) (fun _ _ _ _ h _ => h) ⟨rfl, rfl, trivial⟩ ⟨by simp [joinL], by dsimp only; omega, oa⟩ rfl rfl rfl ?_ ?_
  · rintro i v ⟨p, tp⟩ s₁ E' hi hv9 ⟨hp, hpl, op⟩ S K
    refine gen fun Q8 q8 => ?_
    obtain ⟨b, tb, hb, rfl⟩ := hv.getV hv9
    dsimp only at S hp hpl op
    have hbm := List.mem_of_getElem? hb
    have ob := ob b hbm
    have lb := lb b hbm
    have hlen := hv.len
    have hnew : joinL a (bs.take (i + 1)) = join2 p b := by rw [take_snoc hb, hp]; unfold joinL; rw [List.foldl_append]; rfl
    have kb := KB.refl [L] s₁.heap
    clear ht
    
    ((repeat ((with_reducible refine q5 _ _ ?_); clear q5 Q5)); (repeat ((with_reducible refine q5 _ _ ?_); clear q5 Q5)); (with_reducible refine x_consG fun Q5 q5 => ?_); (with_reducible refine wpAny_Assign_Name ?_ ?hs9); (case hs9 => exact rfl); (with_reducible refine Call_ ?_ ?he9); (case he9 => exact rfl); (with_reducible refine' e_glob (St.bs S) ?e9 ?_ ?hg9 ?hk9 ?hx9 ?hd9); (case hg9 => exact rfl); (case hk9 => exact rfl); (case hx9 => exact rfl); (case hd9 => decide); (case e9 => k_is); (with_reducible refine cf S ?hf9 ?_ ?he9); (case he9 => exact rfl); (case hf9 => k_is); (with_reducible refine args_cons ?_ ?he9); (case he9 => exact rfl); (with_reducible refine' e_loc S ?hv9 ?_ ?hL9 ?hk9 ?hl9 ?hd9); (case hL9 => exact rfl); (case hk9 => exact rfl); (case hl9 => exact rfl); (case hd9 => decide); (case hv9 => exact rfl); (with_reducible refine args_nil ?_); (with_reducible refine And.intro (Keeps.up (St.ext S)) ?_); (repeat ((with_reducible refine q5 _ _ ?_); clear q5 Q5)))
    refine c_fspath R' (St.bs S) fun s' k9 => ?_
    replace S := St.to S k9; replace kb := kb.keeps k9; clear k9
    ((repeat ((with_reducible refine q5 _ _ ?_); clear q5 Q5)); (with_reducible refine st_loc S hF ?_ ?hL9 ?hl9 ?hp9); (case hL9 => exact rfl); (case hl9 => exact rfl); (case hp9 => exact rfl); clear S; intro s' S d9 kk9; replace kb := kb.trans (KB.but kk9 List.mem_cons_self); clear d9 kk9; (repeat ((with_reducible refine q5 _ _ ?_); clear q5 Q5)); (with_reducible refine x_consG fun Q5 q5 => ?_); (with_reducible refine wpAny_If ?_; refine isTrue_or ?_); (with_reducible refine isTrue_plain ?_ ?he9); (case he9 => exact rfl); (with_reducible refine' MethodCall_ ?_ ?he9); (case he9 => exact rfl); (with_reducible refine' e_loc S ?hv9 ?_ ?hL9 ?hk9 ?hl9 ?hd9); (case hL9 => exact rfl); (case hk9 => exact rfl); (case hl9 => exact rfl); (case hd9 => decide); (case hv9 => exact rfl); (with_reducible refine gm_st ?_); (with_reducible refine cm1 ?_ ?he9 ?hp9); (case he9 => exact rfl); (case hp9 => exact rfl); (with_reducible refine args_cons ?_ ?he9); (case he9 => exact rfl); (with_reducible refine' e_loc S ?hv9 ?_ ?hL9 ?hk9 ?hl9 ?hd9); (case hL9 => exact rfl); (case hk9 => exact rfl); (case hl9 => exact rfl); (case hd9 => decide); (case hv9 => exact rfl); (with_reducible refine args_nil ?_); (with_reducible refine c_st ?ho9 ?_); (case ho9 => first | assumption | exact Oct.nil | exact BF.oct47 | (intro c hc; simp at hc; omega)); (with_reducible refine wpAny_truthy_bool ?_); (repeat ((with_reducible refine q5 _ _ ?_); clear q5 Q5)))
    refine ite_b (fun h1 => ?_) (fun h1 => ?_)
    · ((repeat ((with_reducible refine q5 _ _ ?_); clear q5 Q5)); (with_reducible refine ite_t ?_); (repeat ((with_reducible refine q5 _ _ ?_); clear q5 Q5)); (with_reducible refine x_consG fun Q5 q5 => ?_); (with_reducible refine wpAny_Assign_Name ?_ ?hs9); (case hs9 => exact rfl); (with_reducible refine' e_loc S ?hv9 ?_ ?hL9 ?hk9 ?hl9 ?hd9); (case hL9 => exact rfl); (case hk9 => exact rfl); (case hl9 => exact rfl); (case hd9 => decide); (case hv9 => exact rfl); (with_reducible refine st_loc S hF ?_ ?hL9 ?hl9 ?hp9); (case hL9 => exact rfl); (case hl9 => exact rfl); (case hp9 => exact rfl); clear S; intro s' S d9 kk9; replace kb := kb.trans (KB.but kk9 List.mem_cons_self); clear d9 kk9; (repeat ((with_reducible refine q5 _ _ ?_); clear q5 Q5)); (with_reducible refine wpAny_execs_nil ?_); (repeat ((with_reducible refine q5 _ _ ?_); clear q5 Q5)); (with_reducible refine wpAny_execs_nil ?_); (repeat ((with_reducible refine q5 _ _ ?_); clear q5 Q5)))
      (repeat ((with_reducible refine q5 _ _ ?_); clear q5 Q5)); exact q8 _ _ ⟨.inl rfl, (_, _), ⟨by rw [hnew]; unfold join2; rw [if_pos h1], by dsimp only; omega, ob⟩, S.sub ⟨rfl, rfl, trivial⟩, kb⟩
    · ((repeat ((with_reducible refine q5 _ _ ?_); clear q5 Q5)); (with_reducible refine isTrue_or ?_; refine isTrue_not ?_); (with_reducible refine isTrue_plain ?_ ?he9); (case he9 => exact rfl); (with_reducible refine' e_loc S ?hv9 ?_ ?hL9 ?hk9 ?hl9 ?hd9); (case hL9 => exact rfl); (case hk9 => exact rfl); (case hl9 => exact rfl); (case hd9 => decide); (case hv9 => exact rfl); (with_reducible refine truthy_tx ?hsz9 ?_); (case hsz9 => first | assumption | omega | (simp only [List.length_append, List.length_cons, List.length_nil]; omega)); intro s' k9; replace S := St.to S k9; replace kb := kb.keeps k9; clear k9; (repeat ((with_reducible refine q5 _ _ ?_); clear q5 Q5)))
      refine ite_b (fun h2 => ?_) (fun h2 => ?_)
      · rw [Bool.not_not] at h2
        ((repeat ((with_reducible refine q5 _ _ ?_); clear q5 Q5)); (with_reducible refine ite_t ?_); (repeat ((with_reducible refine q5 _ _ ?_); clear q5 Q5)); (with_reducible refine x_consG fun Q5 q5 => ?_); (with_reducible refine wpAny_Assign_Name ?_ ?hs9); (case hs9 => exact rfl); (with_reducible refine' e_loc S ?hv9 ?_ ?hL9 ?hk9 ?hl9 ?hd9); (case hL9 => exact rfl); (case hk9 => exact rfl); (case hl9 => exact rfl); (case hd9 => decide); (case hv9 => exact rfl); (with_reducible refine st_loc S hF ?_ ?hL9 ?hl9 ?hp9); (case hL9 => exact rfl); (case hl9 => exact rfl); (case hp9 => exact rfl); clear S; intro s' S d9 kk9; replace kb := kb.trans (KB.but kk9 List.mem_cons_self); clear d9 kk9; (repeat ((with_reducible refine q5 _ _ ?_); clear q5 Q5)); (with_reducible refine wpAny_execs_nil ?_); (repeat ((with_reducible refine q5 _ _ ?_); clear q5 Q5)); (with_reducible refine wpAny_execs_nil ?_); (repeat ((with_reducible refine q5 _ _ ?_); clear q5 Q5)))
        (repeat ((with_reducible refine q5 _ _ ?_); clear q5 Q5)); exact q8 _ _ ⟨.inl rfl, (_, _), ⟨by rw [hnew]; unfold join2; rw [if_neg (by rw [h1]; exact Bool.false_ne_true), if_pos h2], by dsimp only; omega, ob⟩, S.sub ⟨rfl, rfl, trivial⟩, kb⟩
      · rw [Bool.not_not] at h2
        ((repeat ((with_reducible refine q5 _ _ ?_); clear q5 Q5)); (with_reducible refine isTrue_or_nil ?_; refine ite_f ?_); (repeat ((with_reducible refine q5 _ _ ?_); clear q5 Q5)); (with_reducible refine x_consG fun Q5 q5 => ?_); (with_reducible refine wpAny_If ?_); (with_reducible refine isTrue_plain ?_ ?he9); (case he9 => exact rfl); (with_reducible refine' MethodCall_ ?_ ?he9); (case he9 => exact rfl); (with_reducible refine' e_loc S ?hv9 ?_ ?hL9 ?hk9 ?hl9 ?hd9); (case hL9 => exact rfl); (case hk9 => exact rfl); (case hl9 => exact rfl); (case hd9 => decide); (case hv9 => exact rfl); (with_reducible refine gm_en ?_); (with_reducible refine cm1 ?_ ?he9 ?hp9); (case he9 => exact rfl); (case hp9 => exact rfl); (with_reducible refine args_cons ?_ ?he9); (case he9 => exact rfl); (with_reducible refine' e_loc S ?hv9 ?_ ?hL9 ?hk9 ?hl9 ?hd9); (case hL9 => exact rfl); (case hk9 => exact rfl); (case hl9 => exact rfl); (case hd9 => decide); (case hv9 => exact rfl); (with_reducible refine args_nil ?_); (with_reducible refine c_en ?ho9 ?_); (case ho9 => first | assumption | exact Oct.nil | exact BF.oct47 | (intro c hc; simp at hc; omega)); (with_reducible refine wpAny_truthy_bool ?_); (repeat ((with_reducible refine q5 _ _ ?_); clear q5 Q5)))
        refine ite_b (fun h3 => ?_) (fun h3 => ?_)
        · ((repeat ((with_reducible refine q5 _ _ ?_); clear q5 Q5)); (repeat ((with_reducible refine q5 _ _ ?_); clear q5 Q5)); (with_reducible refine x_consG fun Q5 q5 => ?_); (with_reducible refine wpAny_AugAssign_Name ?_); (with_reducible refine' n_loc S ?hv9 ?_ ?hL9 ?hk9 ?hl9); (case hL9 => exact rfl); (case hk9 => exact rfl); (case hl9 => exact rfl); (case hv9 => exact rfl); (with_reducible refine' e_loc S ?hv9 ?_ ?hL9 ?hk9 ?hl9 ?hd9); (case hL9 => exact rfl); (case hk9 => exact rfl); (case hl9 => exact rfl); (case hd9 => decide); (case hv9 => exact rfl); (with_reducible refine iadd_tx ?hsz9 ?_); (case hsz9 => first | assumption | omega | (simp only [List.length_append, List.length_cons, List.length_nil]; omega)); intro t s' k9; replace S := St.to S k9; replace kb := kb.keeps k9; clear k9; (with_reducible refine st_loc S hF ?_ ?hL9 ?hl9 ?hp9); (case hL9 => exact rfl); (case hl9 => exact rfl); (case hp9 => exact rfl); clear S; intro s' S d9 kk9; replace kb := kb.trans (KB.but kk9 List.mem_cons_self); clear d9 kk9; (repeat ((with_reducible refine q5 _ _ ?_); clear q5 Q5)); (with_reducible refine wpAny_execs_nil ?_); (repeat ((with_reducible refine q5 _ _ ?_); clear q5 Q5)); (with_reducible refine wpAny_execs_nil ?_); (repeat ((with_reducible refine q5 _ _ ?_); clear q5 Q5)); (with_reducible refine wpAny_execs_nil ?_); (repeat ((with_reducible refine q5 _ _ ?_); clear q5 Q5)))
          (repeat ((with_reducible refine q5 _ _ ?_); clear q5 Q5)); exact q8 _ _ ⟨.inl rfl, (_, _), ⟨by rw [hnew]; unfold join2; rw [if_neg (by rw [h1]; exact Bool.false_ne_true), if_neg (by rw [h2]; exact Bool.false_ne_true), if_pos h3], by dsimp only; rw [List.length_append]; omega, Oct.app op ob⟩, S.sub ⟨rfl, rfl, trivial⟩, kb⟩
        · ((repeat ((with_reducible refine q5 _ _ ?_); clear q5 Q5)); (repeat ((with_reducible refine q5 _ _ ?_); clear q5 Q5)); (with_reducible refine x_consG fun Q5 q5 => ?_); (with_reducible refine wpAny_AugAssign_Name ?_); (with_reducible refine' n_loc S ?hv9 ?_ ?hL9 ?hk9 ?hl9); (case hL9 => exact rfl); (case hk9 => exact rfl); (case hl9 => exact rfl); (case hv9 => exact rfl); (with_reducible refine wpAny_BinOp ?_); (with_reducible refine' e_loc S ?hv9 ?_ ?hL9 ?hk9 ?hl9 ?hd9); (case hL9 => exact rfl); (case hk9 => exact rfl); (case hl9 => exact rfl); (case hd9 => decide); (case hv9 => exact rfl); (with_reducible refine' e_loc S ?hv9 ?_ ?hL9 ?hk9 ?hl9 ?hd9); (case hL9 => exact rfl); (case hk9 => exact rfl); (case hl9 => exact rfl); (case hd9 => decide); (case hv9 => exact rfl); (with_reducible refine add_tx ?hsz9 ?_); (case hsz9 => first | assumption | omega | (simp only [List.length_append, List.length_cons, List.length_nil]; omega)); intro t s' k9; replace S := St.to S k9; replace kb := kb.keeps k9; clear k9; (with_reducible refine iadd_tx ?hsz9 ?_); (case hsz9 => first | assumption | omega | (simp only [List.length_append, List.length_cons, List.length_nil]; omega)); intro t s' k9; replace S := St.to S k9; replace kb := kb.keeps k9; clear k9; (with_reducible refine st_loc S hF ?_ ?hL9 ?hl9 ?hp9); (case hL9 => exact rfl); (case hl9 => exact rfl); (case hp9 => exact rfl); clear S; intro s' S d9 kk9; replace kb := kb.trans (KB.but kk9 List.mem_cons_self); clear d9 kk9; (repeat ((with_reducible refine q5 _ _ ?_); clear q5 Q5)); (with_reducible refine wpAny_execs_nil ?_); (repeat ((with_reducible refine q5 _ _ ?_); clear q5 Q5)); (with_reducible refine wpAny_execs_nil ?_); (repeat ((with_reducible refine q5 _ _ ?_); clear q5 Q5)); (with_reducible refine wpAny_execs_nil ?_); (repeat ((with_reducible refine q5 _ _ ?_); clear q5 Q5)))
          (repeat ((with_reducible refine q5 _ _ ?_); clear q5 Q5)); exact q8 _ _ ⟨.inl rfl, (_, _), ⟨by rw [hnew]; unfold join2; rw [if_neg (by rw [h1]; exact Bool.false_ne_true), if_neg (by rw [h2]; exact Bool.false_ne_true), if_neg (by rw [h3]; exact Bool.false_ne_true)]; rfl, by dsimp only; rw [List.length_append, List.length_append, List.length_singleton]; omega, Oct.app op (Oct.app BF.oct47 ob)⟩, S.sub ⟨rfl, rfl, trivial⟩, kb⟩
    
  · rintro ⟨p, tp⟩ s₁ ⟨hp, hpl, op⟩ S K
    dsimp only at S hp ⊢
    clear ht
    
    ((repeat ((with_reducible refine q5 _ _ ?_); clear q5 Q5)); (repeat ((with_reducible refine q5 _ _ ?_); clear q5 Q5)); (with_reducible refine wpAny_execs_nil ?_); (repeat ((with_reducible refine q5 _ _ ?_); clear q5 Q5)); (with_reducible refine wpAny_execs_nil ?_); (repeat ((with_reducible refine q5 _ _ ?_); clear q5 Q5)); (with_reducible refine x_consG fun Q5 q5 => ?_); (with_reducible refine wpAny_Return_some ?_); (with_reducible refine' e_loc S ?hv9 ?_ ?hL9 ?hk9 ?hl9 ?hd9); (case hL9 => exact rfl); (case hk9 => exact rfl); (case hl9 => exact rfl); (case hd9 => decide); (case hv9 => exact rfl); (repeat ((with_reducible refine q5 _ _ ?_); clear q5 Q5)))
    have e : p = joinL a bs := by rw [hp, hv.len, List.take_length]
    rw [e]
    (repeat ((with_reducible refine q5 _ _ ?_); clear q5 Q5)); exact h _ _ (St.ext S)
    
  
end
end Mine
end
section
open PySem PySem.W PyProof.Rows PySem.Calls PySem.Builtin PySem.SeqAt
set_option maxRecDepth 100000
set_option maxHeartbeats 4000000
namespace Mine
open BF

noncomputable def stepN (r : List Nat) (S : List (List Nat)) (c : List Nat) : List (List Nat) :=
  if c = [] ∨ c = [46] then S
  else if c ≠ [46, 46] ∨ (r = [] ∧ S = []) ∨ S.getLast? = some [46, 46] then S ++ [c] else S.dropLast
theorem stepN_skip {r : List Nat} {S : List (List Nat)} {c : List Nat} (h : c = [] ∨ c = [46]) : stepN r S c = S := by unfold stepN; rw [if_pos h]
theorem stepN_app {r : List Nat} {S : List (List Nat)} {c : List Nat} (h2 : c ≠ []) (h3 : c ≠ [46]) (h : c ≠ [46, 46] ∨ (r = [] ∧ S = []) ∨ S.getLast? = some [46, 46]) : stepN r S c = S ++ [c] := by
  unfold stepN; rw [if_neg (fun x => x.elim h2 h3), if_pos h]
theorem stepN_pop {r : List Nat} {S : List (List Nat)} {c : List Nat} (h2 : c ≠ []) (h3 : c ≠ [46]) (h4 : c = [46, 46]) (h5 : ¬ (r = [] ∧ S = [])) (h6 : S.getLast? ≠ some [46, 46]) : stepN r S c = S.dropLast := by
  unfold stepN; rw [if_neg (fun x => x.elim h2 h3), if_neg (fun x => x.elim (fun y => y h4) fun y => y.elim h5 h6)]
noncomputable def stackN (r : List Nat) (cs : List (List Nat)) : List (List Nat) := cs.foldl (stepN r) []
noncomputable def npath (cs : List Nat) : List Nat := if cs = [] then [46] else
  let p := srR cs ++ jn47 (stackN (srR cs) (sp47 (srT cs)))
  if p = [] then [46] else p
noncomputable def wt (l : List (List Nat)) : Nat := (l.map fun c => c.length + 1).sum
theorem wt_app (a b : List (List Nat)) : wt (a ++ b) = wt a + wt b := by unfold wt; rw [List.map_append, List.sum_append]
theorem wt_one (c : List Nat) : wt [c] = c.length + 1 := by simp [wt]
theorem wt_join (l : List (List Nat)) : (l.map List.length).sum + l.length = wt l := by
  induction l with
  | nil => rfl
  | cons c l ih => unfold wt at ih ⊢; simp only [List.map_cons, List.sum_cons, List.length_cons] at ih ⊢; omega
theorem wt_sp (cs : List Nat) : wt (sp47 cs) = cs.length + 1 := by
  induction cs with
  | nil => rfl
  | cons c r ih =>
    by_cases h : c = 47
    · subst h
      rw [sp_47]; show 0 + 1 + wt (sp47 r) = _; rw [ih]; simp; omega
    · cases e : sp47 r with
      | nil => exact absurd e (sp_ne r)
      | cons x t =>
        rw [sp_other h e]
        rw [e] at ih
        have h1 : wt ((c :: x) :: t) = (c :: x).length + 1 + wt t := by simp [wt]
        have h2 : wt (x :: t) = x.length + 1 + wt t := by simp [wt]
        simp at h1 h2 ⊢; omega
theorem wt_len (l : List (List Nat)) : l.length ≤ wt l := by have := wt_join l; omega
theorem sp_oct {cs : List Nat} (o : Oct cs) : ∀ p ∈ sp47 cs, Oct p := by
  induction cs with
  | nil => intro p hp; simp [sp47] at hp; subst hp; exact Oct.nil
  | cons c r ih =>
    have oc := o c List.mem_cons_self
    have ih := ih fun x hx => o x (List.mem_cons_of_mem _ hx)
    by_cases h : c = 47
    · subst h; rw [sp_47]; intro p hp
      rcases List.mem_cons.mp hp with rfl | hp
      · exact Oct.nil
      · exact ih p hp
    · cases e : sp47 r with
      | nil => exact absurd e (sp_ne r)
      | cons x t =>
        rw [sp_other h e]
        rw [e] at ih
        intro p hp
        rcases List.mem_cons.mp hp with rfl | hp
        · exact Oct.cons oc (ih x List.mem_cons_self)
        · exact ih p (List.mem_cons_of_mem _ hp)
theorem srT_oct {cs : List Nat} (o : Oct cs) : Oct (srT cs) := by
  unfold srT; split
  · exact o
  · split
    · exact fun c hc => o c (List.mem_of_mem_drop hc)
    · exact fun c hc => o c (List.mem_of_mem_drop hc)
theorem srT_len (cs : List Nat) : (srT cs).length ≤ cs.length := by
  unfold srT; split
  · exact Nat.le_refl _
  · split
    · rw [List.length_drop]; omega
    · rw [List.length_drop]; omega
theorem srR_len (cs : List Nat) : (srR cs).length ≤ 2 := by
  unfold srR; split
  · simp
  · split
    · simp
    · rw [List.length_take]; omega
theorem TxL.snoc {k : Bool} {cs : List (List Nat)} {vs : List Value} (h : TxL k cs vs) : (cs = [] ∧ vs = []) ∨ ∃ ds x us t, cs = ds ++ [x] ∧ vs = us ++ [tx k x t] ∧ TxL k ds us := by
  induction h with
  | nil => exact .inl ⟨rfl, rfl⟩
  | @cons c t cs vs hh ih =>
    right
    rcases ih with ⟨rfl, rfl⟩ | ⟨ds, x, us, u, rfl, rfl, hd⟩
    · (repeat ((with_reducible refine q5 _ _ ?_); clear q5 Q5)); exact ⟨[], c, [], t, rfl, rfl, .nil⟩
    · (repeat ((with_reducible refine q5 _ _ ?_); clear q5 Q5)); exact ⟨c :: ds, x, tx k c t :: us, u, rfl, rfl, .cons hd⟩
theorem ite_T {b : Bool} {X Y : Prop} (hb : b = true) (h : X) : if b = true then X else Y := by rw [if_pos hb]; exact h
theorem ite_F {b : Bool} {X Y : Prop} (hb : b = false) (h : Y) : if b = true then X else Y := by rw [if_neg (by rw [hb]; exact Bool.false_ne_true)]; exact h
section
variable {A : Around} {E : Value → Shared → Prop} {w : World} {s : Shared}
theorem sub_lastN {prog : Program} {value slice : Expr} {l : Addr} {vi : List Value} {v : Value} {u : Tok} {Q : Value → Shared → Prop} (hl : s.heap.IsList l (vi ++ [v]).toArray) (hsz : vi.length ≤ 1048576) (h : Q v s)
    (hs : subscripted slice false (.ref l) (.int (-1) u) = operate [.ref l, .int (-1) u] (getItem (.ref l) (.int (-1) u))) : wpAny (model prog w) A (subscriptTail value slice (.ref l) (.int (-1) u)) Q E s :=
  tail_any hl.typeIs slot_list_getitem.lookup (wpAny_getItem_list_neg hl (by decide) (by simp; omega) (by decide) (by
    have e : ((-1 : Int) + ((vi ++ [v]).toArray.size : Int)).toNat = vi.length := by simp; omega
    rw [e]; simp) h) hs
theorem c_normpath {k : Bool} {cs : List Nat} {t : Tok} {Q : Value → Shared → Prop} (R : Room A 3) (B : Base w s.heap) (o : Oct cs) (hz : cs.length ≤ 900000)
    (h : ∀ t s', Keeps s s' → Q (tx k (npath cs) t) s') :
    wpAny (model PG w) A (call (.ref 136) [tx k cs t]) Q E s := by
  (refine' enterF (binds := [(Str.ofString "path", tx k cs t)]) (by assumption) (by assumption) ?ho ?hcd ?hb ?hl ?hc ?hnd ?_ ?hco ?hgen ?hk; (case ho => k_is); (case hcd => k_is); (case hb => exact rfl); (case hl => exact locs rfl); (case hc => decide); (case hnd => exact by simp); (case hco => exact rfl); (case hgen => exact rfl); (case hk => exact rfl); intro L s₁ hF S R')
  ((repeat ((with_reducible refine q5 _ _ ?_); clear q5 Q5)); (repeat ((with_reducible refine q5 _ _ ?_); clear q5 Q5)); (with_reducible refine x_consG fun Q5 q5 => ?_); (with_reducible refine wpAny_Assign_Name ?_ ?hs9); (case hs9 => exact rfl); (with_reducible refine Call_ ?_ ?he9); (case he9 => exact rfl); (with_reducible refine' e_glob (St.bs S) ?e9 ?_ ?hg9 ?hk9 ?hx9 ?hd9); (case hg9 => exact rfl); (case hk9 => exact rfl); (case hx9 => exact rfl); (case hd9 => decide); (case e9 => k_is); (with_reducible refine cf S ?hf9 ?_ ?he9); (case he9 => exact rfl); (case hf9 => k_is); (with_reducible refine args_cons ?_ ?he9); (case he9 => exact rfl); (with_reducible refine' e_loc S ?hv9 ?_ ?hL9 ?hk9 ?hl9 ?hd9); (case hL9 => exact rfl); (case hk9 => exact rfl); (case hl9 => exact rfl); (case hd9 => decide); (case hv9 => exact rfl); (with_reducible refine args_nil ?_); (with_reducible refine And.intro (Keeps.up (St.ext S)) ?_); (repeat ((with_reducible refine q5 _ _ ?_); clear q5 Q5)))
  refine c_fspath (R'.mono (by decide)) (St.bs S) fun s' k9 => ?_
  replace S := St.to S k9; clear k9
  refine st_loc S hF (fun s' S2 d9 kk9 => ?_) rfl rfl rfl
  clear S; have S := S2; clear S2 d9 kk9
  (repeat ((with_reducible refine q5 _ _ ?_); clear q5 Q5))
  refine x_cons (wpAny_mono (Q := fun f s' => f = .next ∧ ∃ t1 t2 t3, St w s L [(Str.ofString "path", tx k cs t), (Str.ofString "sep", tx k [47] t1), (Str.ofString "dot", tx k [46] t2), (Str.ofString "dotdot", tx k [46, 46] t3)] s') ?_ ?_ fun _ _ x => x)
  · cases k
    · ((repeat ((with_reducible refine q5 _ _ ?_); clear q5 Q5)); (with_reducible refine wpAny_If ?_); (with_reducible refine isTrue_plain ?_ ?he9); (case he9 => exact rfl); (with_reducible refine Call_ ?_ ?he9); (case he9 => exact rfl); (with_reducible refine' e_blt (St.bs S) ?e9 ?hv9 ?_ ?hn9 ?hb9 ?hg9 ?hk9 ?hx9 ?hd9); (case hb9 => exact rfl); (case hg9 => exact rfl); (case hk9 => exact rfl); (case hx9 => exact rfl); (case hd9 => decide); (case hn9 => decide); (case e9 => k_is); (case hv9 => with_reducible first | exact bb_isinstance | exact bb_bytes | exact bb_str | exact bb_type | exact bb_issubclass | exact bb_len | exact bb_chr | exact bb_ord | exact bb_int | exact bb_range | exact bb_max | exact bb_min); (with_reducible refine callWith_builtin1 ?_ ?he9 ?hp9); (case he9 => exact rfl); (case hp9 => exact rfl); (with_reducible refine args_cons ?_ ?he9); (case he9 => exact rfl); (with_reducible refine' e_loc S ?hv9 ?_ ?hL9 ?hk9 ?hl9 ?hd9); (case hL9 => exact rfl); (case hk9 => exact rfl); (case hl9 => exact rfl); (case hd9 => decide); (case hv9 => exact rfl); (with_reducible refine args_cons ?_ ?he9); (case he9 => exact rfl); (with_reducible refine' e_blt (St.bs S) ?e9 ?hv9 ?_ ?hn9 ?hb9 ?hg9 ?hk9 ?hx9 ?hd9); (case hb9 => exact rfl); (case hg9 => exact rfl); (case hk9 => exact rfl); (case hx9 => exact rfl); (case hd9 => decide); (case hn9 => decide); (case e9 => k_is); (case hv9 => with_reducible first | exact bb_isinstance | exact bb_bytes | exact bb_str | exact bb_type | exact bb_issubclass | exact bb_len | exact bb_chr | exact bb_ord | exact bb_int | exact bb_range | exact bb_max | exact bb_min); (with_reducible refine args_nil ?_); (with_reducible refine isi_tx_bytes ?_);  intro s' k9; replace S := St.to S k9; skip; clear k9; (with_reducible refine wpAny_truthy_bool ?_; refine ite_f ?_); (repeat ((with_reducible refine q5 _ _ ?_); clear q5 Q5)); (with_reducible refine x_consG fun Q5 q5 => ?_); (with_reducible refine wpAny_Assign_Name ?_ ?hs9); (case hs9 => exact rfl); (with_reducible refine l_sl ?_);  intro t s' k9; replace S := St.to S k9; skip; clear k9; (with_reducible refine st_loc S hF ?_ ?hL9 ?hl9 ?hp9); (case hL9 => exact rfl); (case hl9 => exact rfl); (case hp9 => exact rfl); clear S; intro s' S d9 kk9; skip; clear d9 kk9; (repeat ((with_reducible refine q5 _ _ ?_); clear q5 Q5)); (with_reducible refine x_consG fun Q5 q5 => ?_); (with_reducible refine wpAny_Assign_Name ?_ ?hs9); (case hs9 => exact rfl); (with_reducible refine l_d ?_);  intro t s' k9; replace S := St.to S k9; skip; clear k9; (with_reducible refine st_loc S hF ?_ ?hL9 ?hl9 ?hp9); (case hL9 => exact rfl); (case hl9 => exact rfl); (case hp9 => exact rfl); clear S; intro s' S d9 kk9; skip; clear d9 kk9; (repeat ((with_reducible refine q5 _ _ ?_); clear q5 Q5)); (with_reducible refine x_consG fun Q5 q5 => ?_); (with_reducible refine wpAny_Assign_Name ?_ ?hs9); (case hs9 => exact rfl); (with_reducible refine l_dd ?_);  intro t s' k9; replace S := St.to S k9; skip; clear k9; (with_reducible refine st_loc S hF ?_ ?hL9 ?hl9 ?hp9); (case hL9 => exact rfl); (case hl9 => exact rfl); (case hp9 => exact rfl); clear S; intro s' S d9 kk9; skip; clear d9 kk9; (repeat ((with_reducible refine q5 _ _ ?_); clear q5 Q5)); (with_reducible refine wpAny_execs_nil ?_); (repeat ((with_reducible refine q5 _ _ ?_); clear q5 Q5)))
      (repeat ((with_reducible refine q5 _ _ ?_); clear q5 Q5)); exact ⟨rfl, _, _, _, S.sub ⟨rfl, rfl, rfl, rfl, trivial⟩⟩
    · ((repeat ((with_reducible refine q5 _ _ ?_); clear q5 Q5)); (with_reducible refine wpAny_If ?_); (with_reducible refine isTrue_plain ?_ ?he9); (case he9 => exact rfl); (with_reducible refine Call_ ?_ ?he9); (case he9 => exact rfl); (with_reducible refine' e_blt (St.bs S) ?e9 ?hv9 ?_ ?hn9 ?hb9 ?hg9 ?hk9 ?hx9 ?hd9); (case hb9 => exact rfl); (case hg9 => exact rfl); (case hk9 => exact rfl); (case hx9 => exact rfl); (case hd9 => decide); (case hn9 => decide); (case e9 => k_is); (case hv9 => with_reducible first | exact bb_isinstance | exact bb_bytes | exact bb_str | exact bb_type | exact bb_issubclass | exact bb_len | exact bb_chr | exact bb_ord | exact bb_int | exact bb_range | exact bb_max | exact bb_min); (with_reducible refine callWith_builtin1 ?_ ?he9 ?hp9); (case he9 => exact rfl); (case hp9 => exact rfl); (with_reducible refine args_cons ?_ ?he9); (case he9 => exact rfl); (with_reducible refine' e_loc S ?hv9 ?_ ?hL9 ?hk9 ?hl9 ?hd9); (case hL9 => exact rfl); (case hk9 => exact rfl); (case hl9 => exact rfl); (case hd9 => decide); (case hv9 => exact rfl); (with_reducible refine args_cons ?_ ?he9); (case he9 => exact rfl); (with_reducible refine' e_blt (St.bs S) ?e9 ?hv9 ?_ ?hn9 ?hb9 ?hg9 ?hk9 ?hx9 ?hd9); (case hb9 => exact rfl); (case hg9 => exact rfl); (case hk9 => exact rfl); (case hx9 => exact rfl); (case hd9 => decide); (case hn9 => decide); (case e9 => k_is); (case hv9 => with_reducible first | exact bb_isinstance | exact bb_bytes | exact bb_str | exact bb_type | exact bb_issubclass | exact bb_len | exact bb_chr | exact bb_ord | exact bb_int | exact bb_range | exact bb_max | exact bb_min); (with_reducible refine args_nil ?_); (with_reducible refine isi_tx_bytes ?_);  intro s' k9; replace S := St.to S k9; skip; clear k9; (with_reducible refine wpAny_truthy_bool ?_; refine ite_t ?_); (repeat ((with_reducible refine q5 _ _ ?_); clear q5 Q5)); (with_reducible refine x_consG fun Q5 q5 => ?_); (with_reducible refine wpAny_Assign_Name ?_ ?hs9); (case hs9 => exact rfl); (with_reducible refine b_sl ?_);  intro t s' k9; replace S := St.to S k9; skip; clear k9; (with_reducible refine st_loc S hF ?_ ?hL9 ?hl9 ?hp9); (case hL9 => exact rfl); (case hl9 => exact rfl); (case hp9 => exact rfl); clear S; intro s' S d9 kk9; skip; clear d9 kk9; (repeat ((with_reducible refine q5 _ _ ?_); clear q5 Q5)); (with_reducible refine x_consG fun Q5 q5 => ?_); (with_reducible refine wpAny_Assign_Name ?_ ?hs9); (case hs9 => exact rfl); (with_reducible refine b_d ?_);  intro t s' k9; replace S := St.to S k9; skip; clear k9; (with_reducible refine st_loc S hF ?_ ?hL9 ?hl9 ?hp9); (case hL9 => exact rfl); (case hl9 => exact rfl); (case hp9 => exact rfl); clear S; intro s' S d9 kk9; skip; clear d9 kk9; (repeat ((with_reducible refine q5 _ _ ?_); clear q5 Q5)); (with_reducible refine x_consG fun Q5 q5 => ?_); (with_reducible refine wpAny_Assign_Name ?_ ?hs9); (case hs9 => exact rfl); (with_reducible refine b_dd ?_);  intro t s' k9; replace S := St.to S k9; skip; clear k9; (with_reducible refine st_loc S hF ?_ ?hL9 ?hl9 ?hp9); (case hL9 => exact rfl); (case hl9 => exact rfl); (case hp9 => exact rfl); clear S; intro s' S d9 kk9; skip; clear d9 kk9; (repeat ((with_reducible refine q5 _ _ ?_); clear q5 Q5)); (with_reducible refine wpAny_execs_nil ?_); (repeat ((with_reducible refine q5 _ _ ?_); clear q5 Q5)))
      (repeat ((with_reducible refine q5 _ _ ?_); clear q5 Q5)); exact ⟨rfl, _, _, _, S.sub ⟨rfl, rfl, rfl, rfl, trivial⟩⟩
  rintro f s' ⟨rfl, t1, t2, t3, S⟩
  dsimp only
  ((repeat ((with_reducible refine q5 _ _ ?_); clear q5 Q5)); (repeat ((with_reducible refine q5 _ _ ?_); clear q5 Q5)); (with_reducible refine x_consG fun Q5 q5 => ?_); (with_reducible refine wpAny_If ?_; refine isTrue_not ?_); (with_reducible refine isTrue_plain ?_ ?he9); (case he9 => exact rfl); (with_reducible refine' e_loc S ?hv9 ?_ ?hL9 ?hk9 ?hl9 ?hd9); (case hL9 => exact rfl); (case hk9 => exact rfl); (case hl9 => exact rfl); (case hd9 => decide); (case hv9 => exact rfl); (with_reducible refine truthy_tx ?hsz9 ?_); (case hsz9 => first | assumption | omega | (simp only [List.length_append, List.length_cons, List.length_nil]; omega)); intro s' k9; replace S := St.to S k9; skip; clear k9; (repeat ((with_reducible refine q5 _ _ ?_); clear q5 Q5)))
  refine ite_b (fun h1 => ?_) (fun h1 => ?_)
  · rw [Bool.not_not] at h1
    ((repeat ((with_reducible refine q5 _ _ ?_); clear q5 Q5)); (repeat ((with_reducible refine q5 _ _ ?_); clear q5 Q5)); (with_reducible refine x_consG fun Q5 q5 => ?_); (with_reducible refine wpAny_Return_some ?_); (with_reducible refine' e_loc S ?hv9 ?_ ?hL9 ?hk9 ?hl9 ?hd9); (case hL9 => exact rfl); (case hk9 => exact rfl); (case hl9 => exact rfl); (case hd9 => decide); (case hv9 => exact rfl); (repeat ((with_reducible refine q5 _ _ ?_); clear q5 Q5)))
    have e : npath cs = [46] := by unfold npath; rw [if_pos (List.isEmpty_iff.mp h1)]
    rw [e] at h
    (repeat ((with_reducible refine q5 _ _ ?_); clear q5 Q5)); exact h _ _ (St.ext S)
  rw [Bool.not_not] at h1
  have hcs : cs ≠ [] := fun e => by rw [e] at h1; cases h1
  ((repeat ((with_reducible refine q5 _ _ ?_); clear q5 Q5)); (repeat ((with_reducible refine q5 _ _ ?_); clear q5 Q5)); (with_reducible refine wpAny_execs_nil ?_); (repeat ((with_reducible refine q5 _ _ ?_); clear q5 Q5)); (with_reducible refine x_consG fun Q5 q5 => ?_); (with_reducible refine PyProof.Rows.Assign_Tuple ?_ ?hs9 ?hw9); (case hs9 => exact rfl); (case hw9 => exact rfl); (with_reducible refine Call_ ?_ ?he9); (case he9 => exact rfl); (with_reducible refine' e_glob (St.bs S) ?e9 ?_ ?hg9 ?hk9 ?hx9 ?hd9); (case hg9 => exact rfl); (case hk9 => exact rfl); (case hx9 => exact rfl); (case hd9 => decide); (case e9 => k_is); (with_reducible refine cf S ?hf9 ?_ ?he9); (case he9 => exact rfl); (case hf9 => k_is); (with_reducible refine args_cons ?_ ?he9); (case he9 => exact rfl); (with_reducible refine' e_loc S ?hv9 ?_ ?hL9 ?hk9 ?hl9 ?hd9); (case hL9 => exact rfl); (case hk9 => exact rfl); (case hl9 => exact rfl); (case hd9 => decide); (case hv9 => exact rfl); (with_reducible refine args_nil ?_); (with_reducible refine And.intro (Keeps.up (St.ext S)) ?_); (repeat ((with_reducible refine q5 _ _ ?_); clear q5 Q5)))
  refine c_splitroot (k := k) R' (St.bs S) o (by omega) fun tt r1 r2 r3 s' k9 ht => ?_
  replace S := St.to S k9; clear k9
  refine a_three S hF R'.hh ht (fun s' S2 d9 kk9 => ?_) rfl rfl rfl rfl rfl
  clear S; have S := S2; clear S2 d9 kk9 ht
  have hlT := srT_len cs
  have hlR := srR_len cs
  have oT := srT_oct o
  generalize hR : srR cs = rt at *
  generalize hT : srT cs = tl at *
  ((repeat ((with_reducible refine q5 _ _ ?_); clear q5 Q5)); (repeat ((with_reducible refine q5 _ _ ?_); clear q5 Q5)); (with_reducible refine x_consG fun Q5 q5 => ?_); (with_reducible refine wpAny_Assign_Name ?_ ?hs9); (case hs9 => exact rfl); (with_reducible refine' MethodCall_ ?_ ?he9); (case he9 => exact rfl); (with_reducible refine' e_loc S ?hv9 ?_ ?hL9 ?hk9 ?hl9 ?hd9); (case hL9 => exact rfl); (case hk9 => exact rfl); (case hl9 => exact rfl); (case hd9 => decide); (case hv9 => exact rfl); (with_reducible refine gm_sp ?_); (with_reducible refine cm1 ?_ ?he9 ?hp9); (case he9 => exact rfl); (case hp9 => exact rfl); (with_reducible refine args_cons ?_ ?he9); (case he9 => exact rfl); (with_reducible refine' e_loc S ?hv9 ?_ ?hL9 ?hk9 ?hl9 ?hd9); (case hL9 => exact rfl); (case hk9 => exact rfl); (case hl9 => exact rfl); (case hd9 => decide); (case hv9 => exact rfl); (with_reducible refine args_nil ?_); (repeat ((with_reducible refine q5 _ _ ?_); clear q5 Q5)))
  refine c_sp oT (by omega) fun ac vs s' k9 hn hv hl => ?_
  have nac := ne_of_fresh hn S.some
  replace S := St.to S k9; clear k9 hn
  
  ((repeat ((with_reducible refine q5 _ _ ?_); clear q5 Q5)); (with_reducible refine st_loc S hF ?_ ?hL9 ?hl9 ?hp9); (case hL9 => exact rfl); (case hl9 => exact rfl); (case hp9 => exact rfl); clear S; intro s' S d9 kk9; replace hl := DL d9 hl; clear d9 kk9; (repeat ((with_reducible refine q5 _ _ ?_); clear q5 Q5)); (with_reducible refine x_consG fun Q5 q5 => ?_); (with_reducible refine wpAny_Assign_Name ?_ ?hs9); (case hs9 => exact rfl); (with_reducible refine List_ ?_; refine args_nil ?_); (repeat ((with_reducible refine q5 _ _ ?_); clear q5 Q5)))
  have hl0 := hl; clear hl
  have S0 := St.ext S
  have hcx : ∃ o, _ := IsList.some hl0
  (refine n_plain (by first | exact Nat.le_of_ble_eq_true rfl | simp) fun a s' k9 hn hl => ?_); have naL := ne_of_fresh hn S.some; have nab := ne_of_fresh hn hcx; replace S := St.to S k9; replace hl0 := KL k9 hl0; clear k9
  have hn0 := fresh_of S0 hn
  clear hn S0 hcx
  have hp := hl; clear hl
  
  
  ((repeat ((with_reducible refine q5 _ _ ?_); clear q5 Q5)); (with_reducible refine st_loc S hF ?_ ?hL9 ?hl9 ?hp9); (case hL9 => exact rfl); (case hl9 => exact rfl); (case hp9 => exact rfl); clear S; intro s' S d9 kk9; replace hl0 := DL d9 hl0; replace hp := DP d9 hp; clear d9 kk9; (repeat ((with_reducible refine q5 _ _ ?_); clear q5 Q5)); (with_reducible refine x_consG fun Q5 q5 => ?_); (with_reducible refine wpAny_For ?_ ?hs9); (case hs9 => intro _; exact rfl); (with_reducible refine' e_loc S ?hv9 ?_ ?hL9 ?hk9 ?hl9 ?hd9); (case hL9 => exact rfl); (case hk9 => exact rfl); (case hl9 => exact rfl); (case hd9 => decide); (case hv9 => exact rfl); (repeat ((with_reducible refine q5 _ _ ?_); clear q5 Q5)))
  have hpx := (plSome hp)
  refine it_list hl0 R'.hh fun I s9 T => ?_
  refine for_rule (σ := List (List Nat) × List Value) [a] (fun σ => [(Str.ofString "sep", tx k [47] t1), (Str.ofString "dot", tx k [46] t2), (Str.ofString "dotdot", tx k [46, 46] t3), (Str.ofString "initial_slashes", tx k rt r2), (Str.ofString "new_comps", .ref a)])
    (fun i σ h => σ.1 = stackN rt ((sp47 tl).take i) ∧ h.PlainList a σ.2.toArray ∧ TxL k σ.1 σ.2 ∧ wt σ.1 ≤ wt ((sp47 tl).take i) ∧ ∀ c ∈ σ.1, Oct c) ([], []) T S hF (by simp; exact naL) (by simp; exact ⟨hn0, hpx⟩)
    (by simp; exact ⟨Ne.symm nac, nab⟩) (fun i σ h h' x kk => ⟨x.1, x.2.1.at fun o e => kk a (by simp) o e, x.2.2⟩) ⟨rfl, rfl, rfl, rfl, rfl, trivial⟩ ⟨rfl, hp, .nil, Nat.zero_le _, by simp⟩ rfl rfl rfl ?_ ?_
  · clear hp hl0 hpx
    rintro i v ⟨St9, us⟩ s₁ E' hi hv9 ⟨hst, hp, hu, hw, hoc⟩ S K
    refine gen fun Q8 q8 => ?_
    obtain ⟨c, tc, hc, rfl⟩ := hv.getV hv9
    dsimp only at S hst hp hu hw hoc
    have hcm := List.mem_of_getElem? hc
    have oc := sp_oct oT c hcm
    have hww := wt_sp tl
    have htk := take_snoc hc
    have hw2 : wt ((sp47 tl).take (i + 1)) = wt ((sp47 tl).take i) + (c.length + 1) := by rw [htk, wt_app, wt_one]
    have hw3 : wt ((sp47 tl).take (i + 1)) ≤ wt (sp47 tl) := by
      have := wt_app ((sp47 tl).take (i + 1)) ((sp47 tl).drop (i + 1))
      rw [List.take_append_drop] at this; omega
    have hnew : stackN rt ((sp47 tl).take (i + 1)) = stepN rt St9 c := by rw [htk, hst]; unfold stackN; rw [List.foldl_append]; rfl
    have hul := hu.len
    have hwl := wt_len St9
    have kb := KB.refl [L, a] s₁.heap
    
    
    
    ((repeat ((with_reducible refine q5 _ _ ?_); clear q5 Q5)); (repeat ((with_reducible refine q5 _ _ ?_); clear q5 Q5)); (with_reducible refine x_consG fun Q5 q5 => ?_); (with_reducible refine wpAny_If ?_; refine isTrue_or ?_; refine isTrue_not ?_); (with_reducible refine isTrue_plain ?_ ?he9); (case he9 => exact rfl); (with_reducible refine' e_loc S ?hv9 ?_ ?hL9 ?hk9 ?hl9 ?hd9); (case hL9 => exact rfl); (case hk9 => exact rfl); (case hl9 => exact rfl); (case hd9 => decide); (case hv9 => exact rfl); (with_reducible refine truthy_tx ?hsz9 ?_); (case hsz9 => first | assumption | omega | (simp only [List.length_append, List.length_cons, List.length_nil]; omega)); intro s' k9; replace S := St.to S k9; replace hp := KP k9 hp; replace kb := kb.keeps k9; clear k9; (repeat ((with_reducible refine q5 _ _ ?_); clear q5 Q5)))
    refine ite_b (fun h2 => ?_) (fun h2 => ?_)
    · rw [Bool.not_not] at h2
      have h2 := List.isEmpty_iff.mp h2
      ((repeat ((with_reducible refine q5 _ _ ?_); clear q5 Q5)); (with_reducible refine ite_t ?_); (repeat ((with_reducible refine q5 _ _ ?_); clear q5 Q5)); (with_reducible refine x_consG fun Q5 q5 => ?_); (with_reducible refine wpAny_Continue ?_); (repeat ((with_reducible refine q5 _ _ ?_); clear q5 Q5)))
      (repeat ((with_reducible refine q5 _ _ ?_); clear q5 Q5)); exact q8 _ _ ⟨by simp, (_, _), ⟨by rw [hnew]; exact (stepN_skip (.inl h2)).symm, hp, hu, by rw [hw2]; dsimp only; omega, hoc⟩, S.sub ⟨rfl, rfl, rfl, rfl, rfl, trivial⟩, kb⟩
    rw [Bool.not_not] at h2
    have h2 : c ≠ [] := fun e => by rw [e] at h2; cases h2
    ((repeat ((with_reducible refine q5 _ _ ?_); clear q5 Q5)); (with_reducible refine isTrue_or ?_); (with_reducible refine wpAny_isTrue_Compare1 ?_ ?hm9); (case hm9 => exact rfl); (with_reducible refine' e_loc S ?hv9 ?_ ?hL9 ?hk9 ?hl9 ?hd9); (case hL9 => exact rfl); (case hk9 => exact rfl); (case hl9 => exact rfl); (case hd9 => decide); (case hv9 => exact rfl); (with_reducible refine' e_loc S ?hv9 ?_ ?hL9 ?hk9 ?hl9 ?hd9); (case hL9 => exact rfl); (case hk9 => exact rfl); (case hl9 => exact rfl); (case hd9 => decide); (case hv9 => exact rfl); (with_reducible refine eq_tx ?ho19 ?ho29 ?_); (case ho19 => first | assumption | exact Oct.nil | exact BF.oct47 | (intro c hc; simp at hc; omega)); (case ho29 => first | assumption | exact Oct.nil | exact BF.oct47 | (intro c hc; simp at hc; omega)); (with_reducible refine wpAny_truthy_bool ?_); (repeat ((with_reducible refine q5 _ _ ?_); clear q5 Q5)))
    refine ite_b (fun h3 => ?_) (fun h3 => ?_)
    · have h3 := eq_of_beq h3
      ((repeat ((with_reducible refine q5 _ _ ?_); clear q5 Q5)); (with_reducible refine ite_t ?_); (repeat ((with_reducible refine q5 _ _ ?_); clear q5 Q5)); (with_reducible refine x_consG fun Q5 q5 => ?_); (with_reducible refine wpAny_Continue ?_); (repeat ((with_reducible refine q5 _ _ ?_); clear q5 Q5)))
      (repeat ((with_reducible refine q5 _ _ ?_); clear q5 Q5)); exact q8 _ _ ⟨by simp, (_, _), ⟨by rw [hnew]; exact (stepN_skip (.inr h3)).symm, hp, hu, by rw [hw2]; dsimp only; omega, hoc⟩, S.sub ⟨rfl, rfl, rfl, rfl, rfl, trivial⟩, kb⟩
    have h3 : c ≠ [46] := by simpa using h3
    ((repeat ((with_reducible refine q5 _ _ ?_); clear q5 Q5)); (with_reducible refine isTrue_or_nil ?_; refine ite_f ?_); (repeat ((with_reducible refine q5 _ _ ?_); clear q5 Q5)); (with_reducible refine wpAny_execs_nil ?_); (repeat ((with_reducible refine q5 _ _ ?_); clear q5 Q5)); (with_reducible refine x_consG fun Q5 q5 => ?_); (with_reducible refine wpAny_If ?_; refine isTrue_or ?_); (with_reducible refine wpAny_isTrue_Compare1 ?_ ?hm9); (case hm9 => exact rfl); (with_reducible refine' e_loc S ?hv9 ?_ ?hL9 ?hk9 ?hl9 ?hd9); (case hL9 => exact rfl); (case hk9 => exact rfl); (case hl9 => exact rfl); (case hd9 => decide); (case hv9 => exact rfl); (with_reducible refine' e_loc S ?hv9 ?_ ?hL9 ?hk9 ?hl9 ?hd9); (case hL9 => exact rfl); (case hk9 => exact rfl); (case hl9 => exact rfl); (case hd9 => decide); (case hv9 => exact rfl); (with_reducible refine ne_tx ?ho19 ?ho29 ?_); (case ho19 => first | assumption | exact Oct.nil | exact BF.oct47 | (intro c hc; simp at hc; omega)); (case ho29 => first | assumption | exact Oct.nil | exact BF.oct47 | (intro c hc; simp at hc; omega)); (with_reducible refine wpAny_truthy_bool ?_); (repeat ((with_reducible refine q5 _ _ ?_); clear q5 Q5)))
    refine ite_b (fun h4 => ?_) (fun h4 => ?_)
    · have h4 : c ≠ [46, 46] := by simpa using h4
      ((repeat ((with_reducible refine q5 _ _ ?_); clear q5 Q5)); (with_reducible refine ite_t ?_); (repeat ((with_reducible refine q5 _ _ ?_); clear q5 Q5)); (with_reducible refine x_consG fun Q5 q5 => ?_); (with_reducible refine wpAny_Expr_any ?_ ?hi9 ?hs9); (case hi9 => exact rfl); (case hs9 => exact rfl); (with_reducible refine' MethodCall_ ?_ ?he9); (case he9 => exact rfl); (with_reducible refine' e_loc S ?hv9 ?_ ?hL9 ?hk9 ?hl9 ?hd9); (case hL9 => exact rfl); (case hk9 => exact rfl); (case hl9 => exact rfl); (case hd9 => decide); (case hv9 => exact rfl); (repeat ((with_reducible refine q5 _ _ ?_); clear q5 Q5)))
      refine gm_app hp ?_
      ((repeat ((with_reducible refine q5 _ _ ?_); clear q5 Q5)); (with_reducible refine cm1 ?_ ?he9 ?hp9); (case he9 => exact rfl); (case hp9 => exact rfl); (with_reducible refine args_cons ?_ ?he9); (case he9 => exact rfl); (with_reducible refine' e_loc S ?hv9 ?_ ?hL9 ?hk9 ?hl9 ?hd9); (case hL9 => exact rfl); (case hk9 => exact rfl); (case hl9 => exact rfl); (case hd9 => decide); (case hv9 => exact rfl); (with_reducible refine args_nil ?_); (repeat ((with_reducible refine q5 _ _ ?_); clear q5 Q5)))
      refine c_app hp (by omega) fun h' hp' k' => ?_
      replace S := S.but k' hn0 naL
      replace kb : KB [L, a] s₁.heap h' := kb.trans fun b o n e => k' b o (fun q => n (by rw [q]; simp)) e
      clear hp; have hp := hp'; clear hp' k'
      ((repeat ((with_reducible refine q5 _ _ ?_); clear q5 Q5)); (repeat ((with_reducible refine q5 _ _ ?_); clear q5 Q5)); (with_reducible refine wpAny_execs_nil ?_); (repeat ((with_reducible refine q5 _ _ ?_); clear q5 Q5)); (with_reducible refine wpAny_execs_nil ?_); (repeat ((with_reducible refine q5 _ _ ?_); clear q5 Q5)))
      (repeat ((with_reducible refine q5 _ _ ?_); clear q5 Q5)); exact q8 _ _ ⟨by simp, (_, _), ⟨by rw [hnew]; exact (stepN_app h2 h3 (.inl h4)).symm, hp, hu.app (.cons .nil), by rw [hw2]; dsimp only; rw [wt_app, wt_one]; omega, by
        intro x hx
        rcases List.mem_append.mp hx with hx | hx
        · exact hoc x hx
        · rw [List.mem_singleton.mp hx]; exact oc⟩, S.sub ⟨rfl, rfl, rfl, rfl, rfl, trivial⟩, kb⟩
    have h4 : c = [46, 46] := by simpa using h4
    ((repeat ((with_reducible refine q5 _ _ ?_); clear q5 Q5)); (with_reducible refine isTrue_or ?_; refine isTrue_and ?_; refine isTrue_not ?_); (with_reducible refine isTrue_plain ?_ ?he9); (case he9 => exact rfl); (with_reducible refine' e_loc S ?hv9 ?_ ?hL9 ?hk9 ?hl9 ?hd9); (case hL9 => exact rfl); (case hk9 => exact rfl); (case hl9 => exact rfl); (case hd9 => decide); (case hv9 => exact rfl); (with_reducible refine truthy_tx ?hsz9 ?_); (case hsz9 => first | assumption | omega | (simp only [List.length_append, List.length_cons, List.length_nil]; omega)); intro s' k9; replace S := St.to S k9; replace hp := KP k9 hp; replace kb := kb.keeps k9; clear k9; (repeat ((with_reducible refine q5 _ _ ?_); clear q5 Q5)))
    
    rcases hu.snoc with ⟨rfl, rfl⟩ | ⟨S0, x, us0, u0, rfl, rfl, hu0⟩
    · refine ite_b (fun h5 => ?_) (fun h5 => ?_)
      · rw [Bool.not_not] at h5
        have h5 := List.isEmpty_iff.mp h5
        ((repeat ((with_reducible refine q5 _ _ ?_); clear q5 Q5)); (with_reducible refine isTrue_and ?_; refine isTrue_not ?_); (with_reducible refine isTrue_plain ?_ ?he9); (case he9 => exact rfl); (with_reducible refine' e_loc S ?hv9 ?_ ?hL9 ?hk9 ?hl9 ?hd9); (case hL9 => exact rfl); (case hk9 => exact rfl); (case hl9 => exact rfl); (case hd9 => decide); (case hv9 => exact rfl); (repeat ((with_reducible refine q5 _ _ ?_); clear q5 Q5)))
        refine u_truthy hp.isList (by first | (simp; done) | omega) fun s' k9 => ?_
        replace S := S.to k9; replace hp := KP k9 hp; replace kb := kb.keeps k9; clear k9
        refine ite_T rfl ?_
        ((repeat ((with_reducible refine q5 _ _ ?_); clear q5 Q5)); (with_reducible refine isTrue_and_nil ?_; refine ite_t ?_; refine ite_t ?_); (repeat ((with_reducible refine q5 _ _ ?_); clear q5 Q5)); (with_reducible refine x_consG fun Q5 q5 => ?_); (with_reducible refine wpAny_Expr_any ?_ ?hi9 ?hs9); (case hi9 => exact rfl); (case hs9 => exact rfl); (with_reducible refine' MethodCall_ ?_ ?he9); (case he9 => exact rfl); (with_reducible refine' e_loc S ?hv9 ?_ ?hL9 ?hk9 ?hl9 ?hd9); (case hL9 => exact rfl); (case hk9 => exact rfl); (case hl9 => exact rfl); (case hd9 => decide); (case hv9 => exact rfl); (repeat ((with_reducible refine q5 _ _ ?_); clear q5 Q5)))
        refine gm_app hp ?_
        ((repeat ((with_reducible refine q5 _ _ ?_); clear q5 Q5)); (with_reducible refine cm1 ?_ ?he9 ?hp9); (case he9 => exact rfl); (case hp9 => exact rfl); (with_reducible refine args_cons ?_ ?he9); (case he9 => exact rfl); (with_reducible refine' e_loc S ?hv9 ?_ ?hL9 ?hk9 ?hl9 ?hd9); (case hL9 => exact rfl); (case hk9 => exact rfl); (case hl9 => exact rfl); (case hd9 => decide); (case hv9 => exact rfl); (with_reducible refine args_nil ?_); (repeat ((with_reducible refine q5 _ _ ?_); clear q5 Q5)))
        refine c_app hp (by omega) fun h' hp' k' => ?_
        replace S := S.but k' hn0 naL
        replace kb : KB [L, a] s₁.heap h' := kb.trans fun b o n e => k' b o (fun q => n (by rw [q]; simp)) e
        clear hp; have hp := hp'; clear hp' k'
        ((repeat ((with_reducible refine q5 _ _ ?_); clear q5 Q5)); (repeat ((with_reducible refine q5 _ _ ?_); clear q5 Q5)); (with_reducible refine wpAny_execs_nil ?_); (repeat ((with_reducible refine q5 _ _ ?_); clear q5 Q5)); (with_reducible refine wpAny_execs_nil ?_); (repeat ((with_reducible refine q5 _ _ ?_); clear q5 Q5)))
        (repeat ((with_reducible refine q5 _ _ ?_); clear q5 Q5)); exact q8 _ _ ⟨by simp, (_, _), ⟨by rw [hnew]; exact (stepN_app h2 h3 (.inr (.inl ⟨h5, rfl⟩))).symm, hp, hu.app (.cons .nil), by rw [hw2]; dsimp only; rw [wt_app, wt_one]; omega, by
          intro x hx
          rcases List.mem_append.mp hx with hx | hx
          · exact hoc x hx
          · rw [List.mem_singleton.mp hx]; exact oc⟩, S.sub ⟨rfl, rfl, rfl, rfl, rfl, trivial⟩, kb⟩
      · rw [Bool.not_not] at h5
        have h5 : rt ≠ [] := fun e => by rw [e] at h5; cases h5
        ((repeat ((with_reducible refine q5 _ _ ?_); clear q5 Q5)); (with_reducible refine ite_f ?_; refine isTrue_or ?_; refine isTrue_and ?_); (with_reducible refine isTrue_plain ?_ ?he9); (case he9 => exact rfl); (with_reducible refine' e_loc S ?hv9 ?_ ?hL9 ?hk9 ?hl9 ?hd9); (case hL9 => exact rfl); (case hk9 => exact rfl); (case hl9 => exact rfl); (case hd9 => decide); (case hv9 => exact rfl); (repeat ((with_reducible refine q5 _ _ ?_); clear q5 Q5)))
        refine u_truthy hp.isList (by first | (simp; done) | omega) fun s' k9 => ?_
        replace S := S.to k9; replace hp := KP k9 hp; replace kb := kb.keeps k9; clear k9
        refine ite_F rfl ?_
        ((repeat ((with_reducible refine q5 _ _ ?_); clear q5 Q5)); (with_reducible refine ite_f ?_; refine isTrue_or_nil ?_; refine ite_f ?_); (repeat ((with_reducible refine q5 _ _ ?_); clear q5 Q5)); (with_reducible refine x_consG fun Q5 q5 => ?_); (with_reducible refine wpAny_If ?_); (with_reducible refine isTrue_plain ?_ ?he9); (case he9 => exact rfl); (with_reducible refine' e_loc S ?hv9 ?_ ?hL9 ?hk9 ?hl9 ?hd9); (case hL9 => exact rfl); (case hk9 => exact rfl); (case hl9 => exact rfl); (case hd9 => decide); (case hv9 => exact rfl); (repeat ((with_reducible refine q5 _ _ ?_); clear q5 Q5)))
        refine u_truthy hp.isList (by first | (simp; done) | omega) fun s' k9 => ?_
        replace S := S.to k9; replace hp := KP k9 hp; replace kb := kb.keeps k9; clear k9
        refine ite_F rfl ?_
        ((repeat ((with_reducible refine q5 _ _ ?_); clear q5 Q5)); (repeat ((with_reducible refine q5 _ _ ?_); clear q5 Q5)); (with_reducible refine wpAny_execs_nil ?_); (repeat ((with_reducible refine q5 _ _ ?_); clear q5 Q5)); (with_reducible refine wpAny_execs_nil ?_); (repeat ((with_reducible refine q5 _ _ ?_); clear q5 Q5)); (with_reducible refine wpAny_execs_nil ?_); (repeat ((with_reducible refine q5 _ _ ?_); clear q5 Q5)))
        (repeat ((with_reducible refine q5 _ _ ?_); clear q5 Q5)); exact q8 _ _ ⟨by simp, (_, _), ⟨by rw [hnew]; exact (stepN_pop (S := []) h2 h3 h4 (fun x => h5 x.1) (by simp)).symm, hp, hu, by rw [hw2]; dsimp only; omega, hoc⟩, S.sub ⟨rfl, rfl, rfl, rfl, rfl, trivial⟩, kb⟩
    · have hx := hoc x (by simp)
      have hne : (us0 ++ [tx k x u0]).isEmpty = false := by simp
      have hul0 : us0.length ≤ 1000000 := by rw [List.length_append] at hul; simp at hul hwl; omega
      
      refine ite_b (fun h5 => ?_) (fun h5 => ?_)
      · rw [Bool.not_not] at h5
        have h5 := List.isEmpty_iff.mp h5
        ((repeat ((with_reducible refine q5 _ _ ?_); clear q5 Q5)); (with_reducible refine isTrue_and ?_; refine isTrue_not ?_); (with_reducible refine isTrue_plain ?_ ?he9); (case he9 => exact rfl); (with_reducible refine' e_loc S ?hv9 ?_ ?hL9 ?hk9 ?hl9 ?hd9); (case hL9 => exact rfl); (case hk9 => exact rfl); (case hl9 => exact rfl); (case hd9 => decide); (case hv9 => exact rfl); (repeat ((with_reducible refine q5 _ _ ?_); clear q5 Q5)))
        refine u_truthy hp.isList (by first | (simp; done) | omega) fun s' k9 => ?_
        replace S := S.to k9; replace hp := KP k9 hp; replace kb := kb.keeps k9; clear k9
        refine ite_F (by simp) ?_
        ((repeat ((with_reducible refine q5 _ _ ?_); clear q5 Q5)); (with_reducible refine ite_f ?_; refine isTrue_or ?_; refine isTrue_and ?_); (with_reducible refine isTrue_plain ?_ ?he9); (case he9 => exact rfl); (with_reducible refine' e_loc S ?hv9 ?_ ?hL9 ?hk9 ?hl9 ?hd9); (case hL9 => exact rfl); (case hk9 => exact rfl); (case hl9 => exact rfl); (case hd9 => decide); (case hv9 => exact rfl); (repeat ((with_reducible refine q5 _ _ ?_); clear q5 Q5)))
        refine u_truthy hp.isList (by first | (simp; done) | omega) fun s' k9 => ?_
        replace S := S.to k9; replace hp := KP k9 hp; replace kb := kb.keeps k9; clear k9
        refine ite_T (by simp) ?_
        ((repeat ((with_reducible refine q5 _ _ ?_); clear q5 Q5)); (with_reducible refine isTrue_and ?_); (with_reducible refine wpAny_isTrue_Compare1 ?_ ?hm9); (case hm9 => exact rfl); (with_reducible refine Subscript_ ?_); (with_reducible refine' e_loc S ?hv9 ?_ ?hL9 ?hk9 ?hl9 ?hd9); (case hL9 => exact rfl); (case hk9 => exact rfl); (case hl9 => exact rfl); (case hd9 => decide); (case hv9 => exact rfl); (with_reducible refine UnaryOp_ ?_); (with_reducible refine e_int ?_);  intro t s' k9; replace S := St.to S k9; replace hp := KP k9 hp; replace kb := kb.keeps k9; clear k9; (with_reducible refine u_neg ?_);  intro t s' k9; replace S := St.to S k9; replace hp := KP k9 hp; replace kb := kb.keeps k9; clear k9; (repeat ((with_reducible refine q5 _ _ ?_); clear q5 Q5)))
        refine sub_lastN hp.isList (by omega) ?_ rfl
        ((repeat ((with_reducible refine q5 _ _ ?_); clear q5 Q5)); (with_reducible refine' e_loc S ?hv9 ?_ ?hL9 ?hk9 ?hl9 ?hd9); (case hL9 => exact rfl); (case hk9 => exact rfl); (case hl9 => exact rfl); (case hd9 => decide); (case hv9 => exact rfl); (with_reducible refine eq_tx ?ho19 ?ho29 ?_); (case ho19 => first | assumption | exact Oct.nil | exact BF.oct47 | (intro c hc; simp at hc; omega)); (case ho29 => first | assumption | exact Oct.nil | exact BF.oct47 | (intro c hc; simp at hc; omega)); (with_reducible refine wpAny_truthy_bool ?_); (repeat ((with_reducible refine q5 _ _ ?_); clear q5 Q5)))
        refine ite_b (fun h6 => ?_) (fun h6 => ?_)
        · have h6 := eq_of_beq h6
          ((repeat ((with_reducible refine q5 _ _ ?_); clear q5 Q5)); (with_reducible refine isTrue_and_nil ?_; refine ite_t ?_; refine ite_t ?_); (repeat ((with_reducible refine q5 _ _ ?_); clear q5 Q5)); (with_reducible refine x_consG fun Q5 q5 => ?_); (with_reducible refine wpAny_Expr_any ?_ ?hi9 ?hs9); (case hi9 => exact rfl); (case hs9 => exact rfl); (with_reducible refine' MethodCall_ ?_ ?he9); (case he9 => exact rfl); (with_reducible refine' e_loc S ?hv9 ?_ ?hL9 ?hk9 ?hl9 ?hd9); (case hL9 => exact rfl); (case hk9 => exact rfl); (case hl9 => exact rfl); (case hd9 => decide); (case hv9 => exact rfl); (repeat ((with_reducible refine q5 _ _ ?_); clear q5 Q5)))
          refine gm_app hp ?_
          ((repeat ((with_reducible refine q5 _ _ ?_); clear q5 Q5)); (with_reducible refine cm1 ?_ ?he9 ?hp9); (case he9 => exact rfl); (case hp9 => exact rfl); (with_reducible refine args_cons ?_ ?he9); (case he9 => exact rfl); (with_reducible refine' e_loc S ?hv9 ?_ ?hL9 ?hk9 ?hl9 ?hd9); (case hL9 => exact rfl); (case hk9 => exact rfl); (case hl9 => exact rfl); (case hd9 => decide); (case hv9 => exact rfl); (with_reducible refine args_nil ?_); (repeat ((with_reducible refine q5 _ _ ?_); clear q5 Q5)))
          refine c_app hp (by omega) fun h' hp' k' => ?_
          replace S := S.but k' hn0 naL
          replace kb : KB [L, a] s₁.heap h' := kb.trans fun b o n e => k' b o (fun q => n (by rw [q]; simp)) e
          clear hp; have hp := hp'; clear hp' k'
          ((repeat ((with_reducible refine q5 _ _ ?_); clear q5 Q5)); (repeat ((with_reducible refine q5 _ _ ?_); clear q5 Q5)); (with_reducible refine wpAny_execs_nil ?_); (repeat ((with_reducible refine q5 _ _ ?_); clear q5 Q5)); (with_reducible refine wpAny_execs_nil ?_); (repeat ((with_reducible refine q5 _ _ ?_); clear q5 Q5)))
          (repeat ((with_reducible refine q5 _ _ ?_); clear q5 Q5)); exact q8 _ _ ⟨by simp, (_, _), ⟨by rw [hnew]; exact (stepN_app h2 h3 (.inr (.inr (by simp [h6])))).symm, hp, hu.app (.cons .nil), by rw [hw2]; dsimp only; rw [wt_app, wt_one]; omega, by
            intro x hx
            rcases List.mem_append.mp hx with hx | hx
            · exact hoc x hx
            · rw [List.mem_singleton.mp hx]; exact oc⟩, S.sub ⟨rfl, rfl, rfl, rfl, rfl, trivial⟩, kb⟩
        · have h6 : x ≠ [46, 46] := by simpa using h6
          ((repeat ((with_reducible refine q5 _ _ ?_); clear q5 Q5)); (with_reducible refine ite_f ?_; refine isTrue_or_nil ?_; refine ite_f ?_); (repeat ((with_reducible refine q5 _ _ ?_); clear q5 Q5)); (with_reducible refine x_consG fun Q5 q5 => ?_); (with_reducible refine wpAny_If ?_); (with_reducible refine isTrue_plain ?_ ?he9); (case he9 => exact rfl); (with_reducible refine' e_loc S ?hv9 ?_ ?hL9 ?hk9 ?hl9 ?hd9); (case hL9 => exact rfl); (case hk9 => exact rfl); (case hl9 => exact rfl); (case hd9 => decide); (case hv9 => exact rfl); (repeat ((with_reducible refine q5 _ _ ?_); clear q5 Q5)))
          refine u_truthy hp.isList (by first | (simp; done) | omega) fun s' k9 => ?_
          replace S := S.to k9; replace hp := KP k9 hp; replace kb := kb.keeps k9; clear k9
          refine ite_T (by simp) ?_
          ((repeat ((with_reducible refine q5 _ _ ?_); clear q5 Q5)); (repeat ((with_reducible refine q5 _ _ ?_); clear q5 Q5)); (with_reducible refine x_consG fun Q5 q5 => ?_); (with_reducible refine wpAny_Expr_any ?_ ?hi9 ?hs9); (case hi9 => exact rfl); (case hs9 => exact rfl); (with_reducible refine' MethodCall_ ?_ ?he9); (case he9 => exact rfl); (with_reducible refine' e_loc S ?hv9 ?_ ?hL9 ?hk9 ?hl9 ?hd9); (case hL9 => exact rfl); (case hk9 => exact rfl); (case hl9 => exact rfl); (case hd9 => decide); (case hv9 => exact rfl); (repeat ((with_reducible refine q5 _ _ ?_); clear q5 Q5)))
          refine gm_pop hp ?_
          ((repeat ((with_reducible refine q5 _ _ ?_); clear q5 Q5)); (with_reducible refine cm0 ?_); (repeat ((with_reducible refine q5 _ _ ?_); clear q5 Q5)))
          refine c_pop hp (by omega) fun h' hp' k' => ?_
          replace S := S.but k' hn0 naL
          replace kb : KB [L, a] s₁.heap h' := kb.trans fun b o n e => k' b o (fun q => n (by rw [q]; simp)) e
          clear hp; have hp := hp'; clear hp' k'
          ((repeat ((with_reducible refine q5 _ _ ?_); clear q5 Q5)); (repeat ((with_reducible refine q5 _ _ ?_); clear q5 Q5)); (with_reducible refine wpAny_execs_nil ?_); (repeat ((with_reducible refine q5 _ _ ?_); clear q5 Q5)); (with_reducible refine wpAny_execs_nil ?_); (repeat ((with_reducible refine q5 _ _ ?_); clear q5 Q5)); (with_reducible refine wpAny_execs_nil ?_); (repeat ((with_reducible refine q5 _ _ ?_); clear q5 Q5)))
          (repeat ((with_reducible refine q5 _ _ ?_); clear q5 Q5)); exact q8 _ _ ⟨by simp, (_, _), ⟨by rw [hnew, stepN_pop h2 h3 h4 (by simp) (by simpa using h6), List.dropLast_concat], hp, hu0, by rw [hw2]; dsimp only; rw [wt_app] at hw; omega, fun y hy => hoc y (by simp [hy])⟩, S.sub ⟨rfl, rfl, rfl, rfl, rfl, trivial⟩, kb⟩
      · rw [Bool.not_not] at h5
        have h5 : rt ≠ [] := fun e => by rw [e] at h5; cases h5
        ((repeat ((with_reducible refine q5 _ _ ?_); clear q5 Q5)); (with_reducible refine ite_f ?_; refine isTrue_or ?_; refine isTrue_and ?_); (with_reducible refine isTrue_plain ?_ ?he9); (case he9 => exact rfl); (with_reducible refine' e_loc S ?hv9 ?_ ?hL9 ?hk9 ?hl9 ?hd9); (case hL9 => exact rfl); (case hk9 => exact rfl); (case hl9 => exact rfl); (case hd9 => decide); (case hv9 => exact rfl); (repeat ((with_reducible refine q5 _ _ ?_); clear q5 Q5)))
        refine u_truthy hp.isList (by first | (simp; done) | omega) fun s' k9 => ?_
        replace S := S.to k9; replace hp := KP k9 hp; replace kb := kb.keeps k9; clear k9
        refine ite_T (by simp) ?_
        ((repeat ((with_reducible refine q5 _ _ ?_); clear q5 Q5)); (with_reducible refine isTrue_and ?_); (with_reducible refine wpAny_isTrue_Compare1 ?_ ?hm9); (case hm9 => exact rfl); (with_reducible refine Subscript_ ?_); (with_reducible refine' e_loc S ?hv9 ?_ ?hL9 ?hk9 ?hl9 ?hd9); (case hL9 => exact rfl); (case hk9 => exact rfl); (case hl9 => exact rfl); (case hd9 => decide); (case hv9 => exact rfl); (with_reducible refine UnaryOp_ ?_); (with_reducible refine e_int ?_);  intro t s' k9; replace S := St.to S k9; replace hp := KP k9 hp; replace kb := kb.keeps k9; clear k9; (with_reducible refine u_neg ?_);  intro t s' k9; replace S := St.to S k9; replace hp := KP k9 hp; replace kb := kb.keeps k9; clear k9; (repeat ((with_reducible refine q5 _ _ ?_); clear q5 Q5)))
        refine sub_lastN hp.isList (by omega) ?_ rfl
        ((repeat ((with_reducible refine q5 _ _ ?_); clear q5 Q5)); (with_reducible refine' e_loc S ?hv9 ?_ ?hL9 ?hk9 ?hl9 ?hd9); (case hL9 => exact rfl); (case hk9 => exact rfl); (case hl9 => exact rfl); (case hd9 => decide); (case hv9 => exact rfl); (with_reducible refine eq_tx ?ho19 ?ho29 ?_); (case ho19 => first | assumption | exact Oct.nil | exact BF.oct47 | (intro c hc; simp at hc; omega)); (case ho29 => first | assumption | exact Oct.nil | exact BF.oct47 | (intro c hc; simp at hc; omega)); (with_reducible refine wpAny_truthy_bool ?_); (repeat ((with_reducible refine q5 _ _ ?_); clear q5 Q5)))
        refine ite_b (fun h6 => ?_) (fun h6 => ?_)
        · have h6 := eq_of_beq h6
          ((repeat ((with_reducible refine q5 _ _ ?_); clear q5 Q5)); (with_reducible refine isTrue_and_nil ?_; refine ite_t ?_; refine ite_t ?_); (repeat ((with_reducible refine q5 _ _ ?_); clear q5 Q5)); (with_reducible refine x_consG fun Q5 q5 => ?_); (with_reducible refine wpAny_Expr_any ?_ ?hi9 ?hs9); (case hi9 => exact rfl); (case hs9 => exact rfl); (with_reducible refine' MethodCall_ ?_ ?he9); (case he9 => exact rfl); (with_reducible refine' e_loc S ?hv9 ?_ ?hL9 ?hk9 ?hl9 ?hd9); (case hL9 => exact rfl); (case hk9 => exact rfl); (case hl9 => exact rfl); (case hd9 => decide); (case hv9 => exact rfl); (repeat ((with_reducible refine q5 _ _ ?_); clear q5 Q5)))
          refine gm_app hp ?_
          ((repeat ((with_reducible refine q5 _ _ ?_); clear q5 Q5)); (with_reducible refine cm1 ?_ ?he9 ?hp9); (case he9 => exact rfl); (case hp9 => exact rfl); (with_reducible refine args_cons ?_ ?he9); (case he9 => exact rfl); (with_reducible refine' e_loc S ?hv9 ?_ ?hL9 ?hk9 ?hl9 ?hd9); (case hL9 => exact rfl); (case hk9 => exact rfl); (case hl9 => exact rfl); (case hd9 => decide); (case hv9 => exact rfl); (with_reducible refine args_nil ?_); (repeat ((with_reducible refine q5 _ _ ?_); clear q5 Q5)))
          refine c_app hp (by omega) fun h' hp' k' => ?_
          replace S := S.but k' hn0 naL
          replace kb : KB [L, a] s₁.heap h' := kb.trans fun b o n e => k' b o (fun q => n (by rw [q]; simp)) e
          clear hp; have hp := hp'; clear hp' k'
          ((repeat ((with_reducible refine q5 _ _ ?_); clear q5 Q5)); (repeat ((with_reducible refine q5 _ _ ?_); clear q5 Q5)); (with_reducible refine wpAny_execs_nil ?_); (repeat ((with_reducible refine q5 _ _ ?_); clear q5 Q5)); (with_reducible refine wpAny_execs_nil ?_); (repeat ((with_reducible refine q5 _ _ ?_); clear q5 Q5)))
          (repeat ((with_reducible refine q5 _ _ ?_); clear q5 Q5)); exact q8 _ _ ⟨by simp, (_, _), ⟨by rw [hnew]; exact (stepN_app h2 h3 (.inr (.inr (by simp [h6])))).symm, hp, hu.app (.cons .nil), by rw [hw2]; dsimp only; rw [wt_app, wt_one]; omega, by
            intro x hx
            rcases List.mem_append.mp hx with hx | hx
            · exact hoc x hx
            · rw [List.mem_singleton.mp hx]; exact oc⟩, S.sub ⟨rfl, rfl, rfl, rfl, rfl, trivial⟩, kb⟩
        · have h6 : x ≠ [46, 46] := by simpa using h6
          ((repeat ((with_reducible refine q5 _ _ ?_); clear q5 Q5)); (with_reducible refine ite_f ?_; refine isTrue_or_nil ?_; refine ite_f ?_); (repeat ((with_reducible refine q5 _ _ ?_); clear q5 Q5)); (with_reducible refine x_consG fun Q5 q5 => ?_); (with_reducible refine wpAny_If ?_); (with_reducible refine isTrue_plain ?_ ?he9); (case he9 => exact rfl); (with_reducible refine' e_loc S ?hv9 ?_ ?hL9 ?hk9 ?hl9 ?hd9); (case hL9 => exact rfl); (case hk9 => exact rfl); (case hl9 => exact rfl); (case hd9 => decide); (case hv9 => exact rfl); (repeat ((with_reducible refine q5 _ _ ?_); clear q5 Q5)))
          refine u_truthy hp.isList (by first | (simp; done) | omega) fun s' k9 => ?_
          replace S := S.to k9; replace hp := KP k9 hp; replace kb := kb.keeps k9; clear k9
          refine ite_T (by simp) ?_
          ((repeat ((with_reducible refine q5 _ _ ?_); clear q5 Q5)); (repeat ((with_reducible refine q5 _ _ ?_); clear q5 Q5)); (with_reducible refine x_consG fun Q5 q5 => ?_); (with_reducible refine wpAny_Expr_any ?_ ?hi9 ?hs9); (case hi9 => exact rfl); (case hs9 => exact rfl); (with_reducible refine' MethodCall_ ?_ ?he9); (case he9 => exact rfl); (with_reducible refine' e_loc S ?hv9 ?_ ?hL9 ?hk9 ?hl9 ?hd9); (case hL9 => exact rfl); (case hk9 => exact rfl); (case hl9 => exact rfl); (case hd9 => decide); (case hv9 => exact rfl); (repeat ((with_reducible refine q5 _ _ ?_); clear q5 Q5)))
          refine gm_pop hp ?_
          ((repeat ((with_reducible refine q5 _ _ ?_); clear q5 Q5)); (with_reducible refine cm0 ?_); (repeat ((with_reducible refine q5 _ _ ?_); clear q5 Q5)))
          refine c_pop hp (by omega) fun h' hp' k' => ?_
          replace S := S.but k' hn0 naL
          replace kb : KB [L, a] s₁.heap h' := kb.trans fun b o n e => k' b o (fun q => n (by rw [q]; simp)) e
          clear hp; have hp := hp'; clear hp' k'
          ((repeat ((with_reducible refine q5 _ _ ?_); clear q5 Q5)); (repeat ((with_reducible refine q5 _ _ ?_); clear q5 Q5)); (with_reducible refine wpAny_execs_nil ?_); (repeat ((with_reducible refine q5 _ _ ?_); clear q5 Q5)); (with_reducible refine wpAny_execs_nil ?_); (repeat ((with_reducible refine q5 _ _ ?_); clear q5 Q5)); (with_reducible refine wpAny_execs_nil ?_); (repeat ((with_reducible refine q5 _ _ ?_); clear q5 Q5)))
          (repeat ((with_reducible refine q5 _ _ ?_); clear q5 Q5)); exact q8 _ _ ⟨by simp, (_, _), ⟨by rw [hnew, stepN_pop h2 h3 h4 (by simp) (by simpa using h6), List.dropLast_concat], hp, hu0, by rw [hw2]; dsimp only; rw [wt_app] at hw; omega, fun y hy => hoc y (by simp [hy])⟩, S.sub ⟨rfl, rfl, rfl, rfl, rfl, trivial⟩, kb⟩
    
  · rintro ⟨St9, us⟩ s₁ ⟨hst, hp, hu, hw, hoc⟩ S K
    dsimp only at S hst hp hu hw hoc ⊢
    clear hl0
    have hww := wt_sp tl
    have hlen := hv.len
    rw [hlen, List.take_length] at hst hw
    
    ((repeat ((with_reducible refine q5 _ _ ?_); clear q5 Q5)); (repeat ((with_reducible refine q5 _ _ ?_); clear q5 Q5)); (with_reducible refine x_consG fun Q5 q5 => ?_); (with_reducible refine wpAny_Assign_Name ?_ ?hs9); (case hs9 => exact rfl); (with_reducible refine' e_loc S ?hv9 ?_ ?hL9 ?hk9 ?hl9 ?hd9); (case hL9 => exact rfl); (case hk9 => exact rfl); (case hl9 => exact rfl); (case hd9 => decide); (case hv9 => exact rfl); (with_reducible refine st_loc S hF ?_ ?hL9 ?hl9 ?hp9); (case hL9 => exact rfl); (case hl9 => exact rfl); (case hp9 => exact rfl); clear S; intro s' S d9 kk9; replace hp := DP d9 hp; clear d9 kk9; (repeat ((with_reducible refine q5 _ _ ?_); clear q5 Q5)); (with_reducible refine x_consG fun Q5 q5 => ?_); (with_reducible refine wpAny_Assign_Name ?_ ?hs9); (case hs9 => exact rfl); (with_reducible refine wpAny_BinOp ?_); (with_reducible refine' e_loc S ?hv9 ?_ ?hL9 ?hk9 ?hl9 ?hd9); (case hL9 => exact rfl); (case hk9 => exact rfl); (case hl9 => exact rfl); (case hd9 => decide); (case hv9 => exact rfl); (with_reducible refine' MethodCall_ ?_ ?he9); (case he9 => exact rfl); (with_reducible refine' e_loc S ?hv9 ?_ ?hL9 ?hk9 ?hl9 ?hd9); (case hL9 => exact rfl); (case hk9 => exact rfl); (case hl9 => exact rfl); (case hd9 => decide); (case hv9 => exact rfl); (with_reducible refine gm_jn ?_); (with_reducible refine cm1 ?_ ?he9 ?hp9); (case he9 => exact rfl); (case hp9 => exact rfl); (with_reducible refine args_cons ?_ ?he9); (case he9 => exact rfl); (with_reducible refine' e_loc S ?hv9 ?_ ?hL9 ?hk9 ?hl9 ?hd9); (case hL9 => exact rfl); (case hk9 => exact rfl); (case hl9 => exact rfl); (case hd9 => decide); (case hv9 => exact rfl); (with_reducible refine args_nil ?_); (repeat ((with_reducible refine q5 _ _ ?_); clear q5 Q5)))
    refine c_jn (k := k) hp.isList hu (by rw [wt_join]; omega) fun t' s' k9 => ?_
    replace S := St.to S k9; replace hp := KP k9 hp; clear k9
    have hjl : (jn47 St9).length ≤ 900001 := by have := BF.jn_len St9; have := wt_join St9; omega
    ((repeat ((with_reducible refine q5 _ _ ?_); clear q5 Q5)); (with_reducible refine add_tx ?hsz9 ?_); (case hsz9 => first | assumption | omega | (simp only [List.length_append, List.length_cons, List.length_nil]; omega)); intro t s' k9; replace S := St.to S k9; replace hp := KP k9 hp; clear k9; (with_reducible refine st_loc S hF ?_ ?hL9 ?hl9 ?hp9); (case hL9 => exact rfl); (case hl9 => exact rfl); (case hp9 => exact rfl); clear S; intro s' S d9 kk9; replace hp := DP d9 hp; clear d9 kk9; (repeat ((with_reducible refine q5 _ _ ?_); clear q5 Q5)); (with_reducible refine x_consG fun Q5 q5 => ?_); (with_reducible refine wpAny_Return_some ?_; refine BoolOp_or ?_); (with_reducible refine' e_loc S ?hv9 ?_ ?hL9 ?hk9 ?hl9 ?hd9); (case hL9 => exact rfl); (case hk9 => exact rfl); (case hl9 => exact rfl); (case hd9 => decide); (case hv9 => exact rfl); (with_reducible refine truthy_tx ?hsz9 ?_); (case hsz9 => first | assumption | omega | (simp only [List.length_append, List.length_cons, List.length_nil]; omega)); intro s' k9; replace S := St.to S k9; replace hp := KP k9 hp; clear k9; (repeat ((with_reducible refine q5 _ _ ?_); clear q5 Q5)))
    have e : npath cs = if rt ++ jn47 St9 = [] then [46] else rt ++ jn47 St9 := by
      unfold npath; rw [if_neg hcs, hR, hT, ← hst]
    rw [e] at h
    by_cases hx : rt ++ jn47 St9 = []
    · rw [if_pos hx] at h
      refine ite_F (by rw [hx]; rfl) ?_
      ((repeat ((with_reducible refine q5 _ _ ?_); clear q5 Q5)); (with_reducible refine BoolOp_one ?_); (with_reducible refine' e_loc S ?hv9 ?_ ?hL9 ?hk9 ?hl9 ?hd9); (case hL9 => exact rfl); (case hk9 => exact rfl); (case hl9 => exact rfl); (case hd9 => decide); (case hv9 => exact rfl); (repeat ((with_reducible refine q5 _ _ ?_); clear q5 Q5)))
      (repeat ((with_reducible refine q5 _ _ ?_); clear q5 Q5)); exact h _ _ (St.ext S)
    · rw [if_neg hx] at h
      refine ite_T (by simpa using hx) ?_
      (repeat ((with_reducible refine q5 _ _ ?_); clear q5 Q5)); exact h _ _ (St.ext S)
    
  
end
end Mine
end
section
open PySem PySem.W PyProof.Rows PySem.Calls PySem.Builtin PySem.SeqAt
set_option maxRecDepth 100000
set_option maxHeartbeats 4000000
namespace Mine
open BF

theorem KC {s s' : Shared} {c : Addr} {v : Option Value} (k : Keeps s s') (x : s.heap.IsCell c v) : s'.heap.IsCell c v := x.keeps (Keeps.up k)
theorem DC {h h' : Heap} {c : Addr} {v : Option Value} (k : Dsv h h') (x : h.IsCell c v) : h'.IsCell c v := let ⟨o, ho, hd⟩ := x; ⟨o, k _ _ ho (fun _ _ q => by rw [hd] at q; cases q), hd⟩
section
variable {M : Model} {A : Around} {E : Value → Shared → Prop} {w : World} {s : Shared} {env : Env}
theorem e_cell {x : Str} {pos : Pos} {c : Addr} {v : Value} {Q : Value → Shared → Prop} (hcl : s.heap.IsCell c (some v)) (h : Q v s)
    (hk : env.scope.kind = .function) (hl : env.kindOf x = some .cell) (hc : env.cells.lookup x = some c) (hd : (x == ("__debug__" : Str)) = false) :
    wpAny M A (eval (.Name x pos) env) Q E s := wpAny_Name (wpAny_loadName_cell hk hl hc hcl h) hd
end
section
variable {A : Around} {E : Value → Shared → Prop} {w : World} {s : Shared}
theorem enterC {n : Nat} {name qual : Str} {params : Arguments} {body : List Stmt} {scope : Scope} {dV kV doc pm cdv ct oc : Value} {an od : Option Addr} {osl : Array (Option Value)} {f : Addr} {args : List Value} {x : Str} {v : Value}
    {Q : Value → Shared → Prop} (R : Room A (n + 1)) (B : Base w s.heap)
    (ho : (KK w.params).lookup f = some ⟨oc, od, .func (fnOf name qual params body scope dV kV doc pm an cdv ct), osl⟩) (hcd : codeIn (KK w.params) cdv qual = true)
    (hbind : bindArgs (fnOf name qual params body scope dV kV doc pm an cdv ct) ⟨args, []⟩ = pure [(x, v)]) (hxc : scope.names.lookup x = some .cell)
    (hcs : ∀ L, cellsFrom L scope.names [] = [(x, L)])
    (h : ∀ L s₁, s.heap.get? L = none → s.heap.get? (L + 1) = none → s₁.heap.IsCell (L + 1) (some v) → St w s L [] s₁ → Room (A.deeper (envOfC qual scope L f cdv)) n →
      wpAny (model PG w) (A.deeper (envOfC qual scope L f cdv)) (execs body (envOfC qual scope L f cdv)) (fun fl s' => Q (retOf fl) s') (fun _ _ => False) s₁)
    (hco : scope.isCoroutine = false) (hgen : scope.isGenerator = false) (hk : scope.kind = .function) :
    wpAny (model PG w) A (call (.ref f) args) Q E s := by
  refine wpAny_call ?_
  refine codeAny_call_cells (fd := fnOf name qual params body scope dV kV doc pm an cdv ct) (body := body) (binds := [(x, v)]) (by have := R.dp; show A.depth < 1000; omega) (B.k _ _ ho) rfl B.nolimit (codeRec_of B.k hcd) rfl
    hbind rfl (fun y hy => ?_) (fun s₁ X => ?_) hco hgen hk
  · rw [List.mem_singleton.mp hy]
    refine .inr ⟨hxc, ?_⟩
    show ((cellsFrom (s.heap.objs.size + 1) scope.names []).lookup x).isSome = true
    rw [hcs]; simp [List.lookup]
  · have hcell := X.cell x (s.heap.objs.size + 1) (by
      show (cellsFrom (s.heap.objs.size + 1) scope.names []).lookup x = _
      rw [hcs]; simp [List.lookup])
    obtain ⟨h', tk, he, kk⟩ := X.done
    have hb : bindC (callEnvC (fnOf name qual params body scope dV kV doc pm an cdv ct) s.heap.objs.size f).kindOf [(x, v)] (fun _ => none) x = some v := by
      have hkx : (callEnvC (fnOf name qual params body scope dV kV doc pm an cdv ct) s.heap.objs.size f).kindOf x = some .cell := hxc
      unfold bindC bindC
      rw [hkx, if_neg (by decide), if_pos rfl]
    rw [hb] at hcell
    have hns := X.toInCall.ns
    refine wpAny_mono (h s.heap.objs.size s₁ (get_none_size _) ?_ hcell ⟨⟨h', tk, he, kk⟩, ⟨_, hns, fun p hp => by cases hp⟩, B⟩ (R.deeper _)) (fun fl s' q => ?_) fun _ _ x => x.elim
    · cases e : s.heap.get? (s.heap.objs.size + 1) with
      | none => rfl
      | some o => exact absurd (Heap.lt_size e) (Nat.not_lt.mpr (Nat.le_succ _))
    · cases fl <;> exact q

theorem comp_goP {env : Env} {s' : Shared} {Q : Value → Shared → Prop} {elt iter c : Expr} {x : Str} {px : Pos} {scope : Scope} {cl : List (Str × Addr)} {pos : Pos} {ax : List Addr} {n : Nat} {P : Nat → Value → Prop} {I : Addr}
    (p : Value → Bool) (F : Value → Value → Prop)
    (T : Itr w A s s' ax n P I) (hax : ∀ a ∈ ax, ∃ o, s.heap.get? a = some o) (B : Base w s.heap) (hsz : n ≤ 1048576)
    (hcell : ∀ y ∈ scope.names, y.2 ≠ .cell) (hkind : scope.kind = .function) (hx : scope.names.lookup x = some .local)
    (htest : ∀ C i v s₃ E', i < n → P i v → Up s.heap s₃.heap → St w s₃ C [(x, v)] s₃ →
      wpAny (model PG w) A (isTrue c (compEnvC scope cl C env) (eval c (compEnvC scope cl C env))) (fun ok s₄ => ok = p v ∧ Keeps s₃ s₄) E' s₃)
    (helt : ∀ C i v s₃ E', i < n → P i v → Up s.heap s₃.heap → St w s₃ C [(x, v)] s₃ →
      wpAny (model PG w) A (eval elt (compEnvC scope cl C env)) (fun y s₄ => F v y ∧ Keeps s₃ s₄) E' s₃)
    (hQ : ∀ D (ys vs : List Value) s₃, Keeps s s₃ → s.heap.get? D = none → s₃.heap.IsList D ys.toArray → vs.length = n → (∀ (j : Nat) (v : Value), vs[j]? = some v → P j v) → Paired F (vs.filter p) ys → Q (.ref D) s₃) :
    CompGoal w A env scope cl (.ListComp elt [⟨.Name x px, iter, [c], 0⟩] scope pos) Q E (.ref I) s' := by
  obtain ⟨Stt, W, hst, hlive⟩ := T.W
  have up : ∀ s₃ : Shared, (∀ b o, b ∉ [I] → s'.heap.get? b = some o → s₃.heap.get? b = some o) → Up s.heap s₃.heap := fun s₃ kk b o e => kk b o (fun hm => by rw [List.mem_singleton.mp hm, T.fr] at e; cases e) (Keeps.up T.k b o e)
  refine comp_block_walkC (RR := fun acc C => compPost (model PG w) A E none Q acc C) W.bound (by rw [sizeLine16]; omega) p F hcell hkind hx hst ?_ ⟨?_, ?_⟩ ?_
  · intro b hb
    rcases List.mem_cons.mp hb with rfl | hb
    · obtain ⟨o, e⟩ := T.ex; exact Heap.lt_size e
    · obtain ⟨o, e⟩ := hax b hb; exact Heap.lt_size (Keeps.up T.k _ _ e)
  · intro C i v s₃ m₃ E' _ hv hn hm kk _
    have u := up s₃ kk
    exact wpAny_tests_one (htest C i v s₃ E' hv.1 hv.2 u ⟨Keeps.refl _, ⟨m₃, hn, fun q hq => by rw [List.mem_singleton.mp hq]; exact hm⟩, B.up u⟩)
  · intro C i v s₃ m₃ E' _ hv _ hn hm kk _
    have u := up s₃ kk
    exact helt C i v s₃ E' hv.1 hv.2 u ⟨Keeps.refl _, ⟨m₃, hn, fun q hq => by rw [List.mem_singleton.mp hq]; exact hm⟩, B.up u⟩
  · intro D C h' tk m' ys vs hD hC hDC hn hl hpl hlen hP hF hk
    refine ⟨m', hn, fun h'' hs'' => ?_⟩
    obtain ⟨hq, tq, e, kq⟩ := T.k
    have hD0 := fresh_of T.k hD
    have hC0 := fresh_of T.k hC
    subst e
    refine hQ D ys.toList vs _ ⟨h'', tk, rfl, fun b o e => ?_⟩ hD0 (by simpa using hl.extBut hs''.extBut hDC) hlen (fun j v e => (hP j v e).2) hF
    exact hs''.extBut b o (fun q => by rw [q, hC0] at e; cases e) (hk b o (fun hm => by rw [List.mem_singleton.mp hm, T.fr] at e; cases e) (kq b o e))
end
end Mine
end
section
open PySem PySem.W PyProof.Rows PySem.Calls PySem.Builtin PySem.SeqAt
set_option maxRecDepth 100000
set_option maxHeartbeats 4000000
namespace Mine
open BF

/-- rows as values -/
noncomputable def RowV (bad : List Addr) (h : Heap) (row : List Pc) (v : Value) : Prop := ∃ a vs, v = .ref a ∧ a ∉ bad ∧ h.IsList a (vs : List Value).toArray ∧ PcL bad h row vs
theorem RowV.kb {bad : List Addr} {h h' : Heap} {row : List Pc} {v : Value} (x : RowV bad h row v) (k : KB bad h h') : RowV bad h' row v := by
  obtain ⟨a, vs, e, ha, hl, hp⟩ := x
  (repeat ((with_reducible refine q5 _ _ ?_); clear q5 Q5)); exact ⟨a, vs, e, ha, lkb hl k ha, hp.kb k⟩
theorem RowV.nob {bad : List Addr} {h : Heap} {row : List Pc} {v : Value} (x : RowV bad h row v) : RowV [] h row v := by
  obtain ⟨a, vs, e, ha, hl, hp⟩ := x
  (repeat ((with_reducible refine q5 _ _ ?_); clear q5 Q5)); exact ⟨a, vs, e, by simp, hl, hp.nob⟩
theorem RowV.up {h h' : Heap} {row : List Pc} {v : Value} (x : RowV [] h row v) (k : Up h h') : RowV [] h' row v := x.kb (KB.up k)
noncomputable def RowsL (h : Heap) (rows : List (List Pc)) (vs : List Value) : Prop := vs.length = rows.length ∧ ∀ (i : Nat) (v : Value), vs[i]? = some v → ∃ row, rows[i]? = some row ∧ RowV [] h row v
theorem RowsL.up {h h' : Heap} {rows : List (List Pc)} {vs : List Value} (x : RowsL h rows vs) (k : Up h h') : RowsL h' rows vs :=
  ⟨x.1, fun i v e => let ⟨row, hr, q⟩ := x.2 i v e; ⟨row, hr, q.up k⟩⟩
theorem RowsL.drop {h : Heap} {rows : List (List Pc)} {vs : List Value} (x : RowsL h rows vs) (n : Nat) : RowsL h (rows.drop n) (vs.drop n) :=
  ⟨by rw [List.length_drop, List.length_drop, x.1], fun i v e => by rw [List.getElem?_drop] at e ⊢; exact x.2 _ _ e⟩
theorem RowsL.rev {h : Heap} {rows : List (List Pc)} {vs : List Value} (x : RowsL h rows vs) : RowsL h rows.reverse vs.reverse := by
  refine ⟨by rw [List.length_reverse, List.length_reverse, x.1], fun i v e => ?_⟩
  have hlt : i < vs.length := by have := (List.getElem?_eq_some_iff.mp e).1; simpa using this
  rw [List.getElem?_reverse hlt] at e
  have hlt' : i < rows.length := by rw [← x.1]; exact hlt
  rw [List.getElem?_reverse hlt', ← x.1]
  exact x.2 _ _ e
structure IsFirst (rows : List (List Pc)) (f : Nat) : Prop where
  lt : f < rows.length
  hit : f = 0 ∨ ∃ row, rows[f]? = some row ∧ 0 < frontC row
  past : ∀ (j : Nat) (row : List Pc), f < j → rows[j]? = some row → frontC row = 0
noncomputable def rootC (n : Nat) : List Nat := if n = 0 then [] else if n = 2 then [47, 47] else [47]
noncomputable def stepL (st : Nat × List Pc) (p : Pc) : Nat × List Pc :=
  if p = (false, [46, 46]) then (st.1 + 1, st.2) else if p ≠ (false, []) ∧ p ≠ (false, [46]) then (if 0 < st.1 then (st.1 - 1, st.2) else (st.1, st.2 ++ [p])) else st
noncomputable def runL (ps : List Pc) : Nat × List Pc := ps.foldl stepL (0, [])
noncomputable def leftL (r : List Nat) (ps : List Pc) : List Pc := (if r = [] then List.replicate (runL ps.reverse).1 (false, [46, 46]) else []) ++ (runL ps.reverse).2.reverse
noncomputable def pOf (rows : List (List Pc)) : Value → Bool
  | .int i _ => decide (0 < frontC (rows.getD i.toNat []))
  | _ => false
theorem paired_eq {vs ys : List Value} (h : Paired (fun v y => y = v) vs ys) : ys = vs := by
  induction h with
  | nil => rfl
  | cons h _ ih => rw [h, ih]
theorem ns_filter {cs : List Nat} {vs : List Value} (h : NsL cs vs) (rows : List (List Pc)) : NsL (cs.filter fun j => decide (0 < frontC (rows.getD j []))) (vs.filter (pOf rows)) := by
  induction h with
  | nil => exact .nil
  | @cons c t cs vs _ ih =>
    rw [List.filter_cons, List.filter_cons]
    have e : pOf rows (.int (c : Int) t) = decide (0 < frontC (rows.getD c [])) := rfl
    rw [e]
    split
    · exact .cons ih
    · exact ih
theorem isFirst_of {rows : List (List Pc)} {m : Int} (hne : rows ≠ []) (hm : m ∈ ((0 :: (List.range rows.length).filter fun j => decide (0 < frontC (rows.getD j []))).map fun (c : Nat) => (c : Int)))
    (hx : ∀ x ∈ ((0 :: (List.range rows.length).filter fun j => decide (0 < frontC (rows.getD j []))).map fun (c : Nat) => (c : Int)), x ≤ m) : ∃ f : Nat, m = (f : Int) ∧ IsFirst rows f := by
  obtain ⟨f, hf, rfl⟩ := List.mem_map.mp hm
  have hpos : 0 < rows.length := by cases rows with
    | nil => exact absurd rfl hne
    | cons _ _ => simp
  refine ⟨f, rfl, ?_, ?_, ?_⟩
  · rcases List.mem_cons.mp hf with rfl | hf
    · exact hpos
    · have := (List.mem_filter.mp hf).1; simpa using this
  · rcases List.mem_cons.mp hf with rfl | hf
    · exact .inl rfl
    · right
      obtain ⟨h1, h2⟩ := List.mem_filter.mp hf
      have hlt : f < rows.length := by simpa using h1
      refine ⟨rows[f], List.getElem?_eq_getElem hlt, ?_⟩
      have h2 := of_decide_eq_true h2
      rw [List.getD_eq_getElem?_getD, List.getElem?_eq_getElem hlt] at h2
      exact h2
  · intro j row hj hr
    have hlt := (List.getElem?_eq_some_iff.mp hr).1
    rcases Nat.eq_zero_or_pos (frontC row) with h0 | h0
    · exact h0
    · exfalso
      have := hx (j : Int) (List.mem_map.mpr ⟨j, List.mem_cons_of_mem _ (List.mem_filter.mpr ⟨by simpa using hlt, by rw [List.getD_eq_getElem?_getD, hr]; simpa using h0⟩), rfl⟩)
      omega
theorem root_at (n : Nat) (t1 t2 t3 t4 : Tok) : ∃ tr, [tx false [] t1, tx false [47] t2, tx false [47, 47] t3, tx false [47] t4][min n 3]? = some (tx false (rootC n) tr) := by
  unfold rootC
  rcases (by omega : n = 0 ∨ n = 1 ∨ n = 2 ∨ 3 ≤ n) with rfl | rfl | rfl | h
  · (repeat ((with_reducible refine q5 _ _ ?_); clear q5 Q5)); exact ⟨_, rfl⟩
  · (repeat ((with_reducible refine q5 _ _ ?_); clear q5 Q5)); exact ⟨_, rfl⟩
  · (repeat ((with_reducible refine q5 _ _ ?_); clear q5 Q5)); exact ⟨_, rfl⟩
  · rw [Nat.min_eq_right h, if_neg (by omega), if_neg (by omega)]; exact ⟨_, rfl⟩
theorem rep_pc {h : Heap} {t : Tok} (cs : List Nat) : ∀ n : Nat, PcL [] h (List.replicate n (false, cs)) (List.replicate n (tx false cs t))
  | 0 => .nil
  | n + 1 => .cons ⟨_, rfl⟩ (rep_pc cs n)
section
variable {A : Around} {E : Value → Shared → Prop} {w : World} {s : Shared}
theorem c_left {rows : List (List Pc)} {a : Addr} {vs : List Value} {Q : Value → Shared → Prop} (R : Room A 2) (B : Base w s.heap) (hne : rows ≠ []) (hz : rows.length ≤ 1000) (hz2 : ∀ row ∈ rows, row.length ≤ 1000)
    (hrl : s.heap.IsList a vs.toArray) (hrv : RowsL s.heap rows vs)
    (h : ∀ f tt l t1 us s', IsFirst rows f → Keeps s s' → s'.heap.IsTuple tt [tx false (rootC (frontC (rows.getD f []))) t1, .ref l].toArray → s'.heap.IsList l us.toArray →
      PcL [] s'.heap (leftL (rootC (frontC (rows.getD f []))) (rows.drop f).flatten) us → Q (.ref tt) s') :
    wpAny (model PG w) A (call (.ref 212) [.ref a]) Q E s := by
  (refine' enterC (x := Str.ofString "rows") (v := .ref a) (by assumption) (by assumption) ?ho ?hcd ?hb ?hxc ?hcs ?_ ?hco ?hgen ?hk; (case ho => k_is); (case hcd => k_is); (case hb => exact rfl); (case hxc => exact rfl); (case hcs => intro _; exact rfl); (case hco => exact rfl); (case hgen => exact rfl); (case hk => exact rfl); intro L s₁ hF hF1 hcl S R')
  
  ((repeat ((with_reducible refine q5 _ _ ?_); clear q5 Q5)); (repeat ((with_reducible refine q5 _ _ ?_); clear q5 Q5)); (with_reducible refine x_consG fun Q5 q5 => ?_); (with_reducible refine wpAny_Assign_Name ?_ ?hs9); (case hs9 => exact rfl); (with_reducible refine Call_ ?_ ?he9); (case he9 => exact rfl); (with_reducible refine' e_blt (St.bs S) ?e9 ?hv9 ?_ ?hn9 ?hb9 ?hg9 ?hk9 ?hx9 ?hd9); (case hb9 => exact rfl); (case hg9 => exact rfl); (case hk9 => exact rfl); (case hx9 => exact rfl); (case hd9 => decide); (case hn9 => decide); (case e9 => k_is); (case hv9 => with_reducible first | exact bb_isinstance | exact bb_bytes | exact bb_str | exact bb_type | exact bb_issubclass | exact bb_len | exact bb_chr | exact bb_ord | exact bb_int | exact bb_range | exact bb_max | exact bb_min); (with_reducible refine callWith_builtin1 ?_ ?he9 ?hp9); (case he9 => exact rfl); (case hp9 => exact rfl); (with_reducible refine args_cons ?_ ?he9); (case he9 => exact rfl); (with_reducible refine wpAny_BinOp ?_; refine List_ ?_); (with_reducible refine args_cons ?_ ?he9); (case he9 => exact rfl); (with_reducible refine e_int ?_);  intro t s' k9; replace S := St.to S k9; replace hcl := KC k9 hcl; clear k9; (with_reducible refine args_nil ?_); (repeat ((with_reducible refine q5 _ _ ?_); clear q5 Q5)))
  (refine n_plain (by first | exact Nat.le_of_ble_eq_true rfl | simp) fun a s' k9 hn hl => ?_); have naL := ne_of_fresh hn S.some; replace S := St.to S k9; replace hcl := KC k9 hcl; clear k9
  have hz0 := hl; clear hl hn naL
  
  
  have hvl := hrv.1
  (repeat ((with_reducible refine q5 _ _ ?_); clear q5 Q5))
  refine e_comp (cl := [(Str.ofString "rows", L + 1)]) ?_ rfl rfl (by decide) (fun _ => rfl)
  ((repeat ((with_reducible refine q5 _ _ ?_); clear q5 Q5)); (with_reducible refine Call_ ?_ ?he9); (case he9 => exact rfl); (with_reducible refine' e_blt (St.bs S) ?e9 ?hv9 ?_ ?hn9 ?hb9 ?hg9 ?hk9 ?hx9 ?hd9); (case hb9 => exact rfl); (case hg9 => exact rfl); (case hk9 => exact rfl); (case hx9 => exact rfl); (case hd9 => decide); (case hn9 => decide); (case e9 => k_is); (case hv9 => with_reducible first | exact bb_isinstance | exact bb_bytes | exact bb_str | exact bb_type | exact bb_issubclass | exact bb_len | exact bb_chr | exact bb_ord | exact bb_int | exact bb_range | exact bb_max | exact bb_min); (with_reducible refine PyProof.Rows.callWith_type1 ?_ ?he9 ?hp9); (case he9 => exact rfl); (case hp9 => exact rfl); (with_reducible refine args_cons ?_ ?he9); (case he9 => exact rfl); (with_reducible refine Call_ ?_ ?he9); (case he9 => exact rfl); (with_reducible refine' e_blt (St.bs S) ?e9 ?hv9 ?_ ?hn9 ?hb9 ?hg9 ?hk9 ?hx9 ?hd9); (case hb9 => exact rfl); (case hg9 => exact rfl); (case hk9 => exact rfl); (case hx9 => exact rfl); (case hd9 => decide); (case hn9 => decide); (case e9 => k_is); (case hv9 => with_reducible first | exact bb_isinstance | exact bb_bytes | exact bb_str | exact bb_type | exact bb_issubclass | exact bb_len | exact bb_chr | exact bb_ord | exact bb_int | exact bb_range | exact bb_max | exact bb_min); (with_reducible refine callWith_builtin1 ?_ ?he9 ?hp9); (case he9 => exact rfl); (case hp9 => exact rfl); (with_reducible refine args_cons ?_ ?he9); (case he9 => exact rfl); (with_reducible refine e_cell hcl ?_ ?hk9 ?hl9 ?hc9 ?hd9); (case hk9 => exact rfl); (case hl9 => exact rfl); (case hc9 => exact rfl); (case hd9 => decide); (with_reducible refine args_nil ?_); (repeat ((with_reducible refine q5 _ _ ?_); clear q5 Q5)))
  refine u_len (KL (St.ext S) hrl) (by omega) fun t' s' k9 => ?_
  replace S := S.to k9; replace hcl := KC k9 hcl; replace hz0 := KP k9 hz0; clear k9
  ((repeat ((with_reducible refine q5 _ _ ?_); clear q5 Q5)); (with_reducible refine args_nil ?_); (repeat ((with_reducible refine q5 _ _ ?_); clear q5 Q5)))
  refine u_range (n := vs.length) fun r t1 t2 t3 s' k9 hr => ?_
  replace S := S.to k9; replace hcl := KC k9 hcl; replace hz0 := KP k9 hz0; clear k9
  (repeat ((with_reducible refine q5 _ _ ?_); clear q5 Q5))
  refine it_range hr (by omega) R'.hh fun I s9 T => ?_
  have hrl1 := KL (St.ext S) hrl
  have hrv1 := hrv.up (Keeps.up (St.ext S))
  refine comp_goP (pOf rows) (fun v y => y = v) T (by simp) (St.bs S) (by omega) (by decide) rfl rfl ?_ ?_ ?_
  · rintro C i v s₃ E' hi ⟨t, rfl⟩ u S
    have hcl := hcl.keeps u
    clear hz0
    
    ((repeat ((with_reducible refine q5 _ _ ?_); clear q5 Q5)); (with_reducible refine wpAny_isTrue_Compare1 ?_ ?hm9); (case hm9 => exact rfl); (with_reducible refine Call_ ?_ ?he9); (case he9 => exact rfl); (with_reducible refine' e_glob (St.bs S) ?e9 ?_ ?hg9 ?hk9 ?hx9 ?hd9); (case hg9 => exact rfl); (case hk9 => exact rfl); (case hx9 => exact rfl); (case hd9 => decide); (case e9 => k_is); (with_reducible refine cf S ?hf9 ?_ ?he9); (case he9 => exact rfl); (case hf9 => k_is); (with_reducible refine args_cons ?_ ?he9); (case he9 => exact rfl); (with_reducible refine Subscript_ ?_); (with_reducible refine e_cell hcl ?_ ?hk9 ?hl9 ?hc9 ?hd9); (case hk9 => exact rfl); (case hl9 => exact rfl); (case hc9 => exact rfl); (case hd9 => decide); (with_reducible refine' e_loc S ?hv9 ?_ ?hL9 ?hk9 ?hl9 ?hd9); (case hL9 => exact rfl); (case hk9 => exact rfl); (case hl9 => exact rfl); (case hd9 => decide); (case hv9 => exact rfl); (repeat ((with_reducible refine q5 _ _ ?_); clear q5 Q5)))
    obtain ⟨row, hrow, ar, vr, ear, _, hlr, hpr⟩ := hrv1.2 i _ (List.getElem?_eq_getElem hi)
    refine sub_li (lup (lup hrl1 u) (Keeps.up (St.ext S))) (by first | exact Int.natCast_nonneg _ | omega) (by omega) (by rw [Int.toNat_natCast]; exact List.getElem?_eq_getElem hi) ?_ rfl
    rw [ear]
    ((repeat ((with_reducible refine q5 _ _ ?_); clear q5 Q5)); (with_reducible refine args_nil ?_); (with_reducible refine And.intro (Keeps.up (St.ext S)) ?_); (repeat ((with_reducible refine q5 _ _ ?_); clear q5 Q5)))
    have hrm := List.mem_of_getElem? hrow
    refine c_front R' (St.bs S) (Nat.le_trans (hz2 row hrm) (by omega)) (lup (lup hlr u) (Keeps.up (St.ext S))) ((hpr.up u).up (Keeps.up (St.ext S))) fun t' s' k9 => ?_
    replace S := S.to k9; replace hcl := KC k9 hcl; clear k9
    ((repeat ((with_reducible refine q5 _ _ ?_); clear q5 Q5)); (with_reducible refine e_int ?_);  intro t s' k9; replace S := St.to S k9; replace hcl := KC k9 hcl; clear k9; (with_reducible refine P.gt_int ?_; refine wpAny_truthy_bool ?_); (repeat ((with_reducible refine q5 _ _ ?_); clear q5 Q5)))
    refine ⟨?_, St.ext S⟩
    show _ = decide (0 < frontC (rows.getD ((i : Int)).toNat []))
    rw [Int.toNat_natCast, List.getD_eq_getElem?_getD, hrow]
    simp
    
  · rintro C i v s₃ E' hi ⟨t, rfl⟩ u S
    clear hz0 hcl
    
    ((repeat ((with_reducible refine q5 _ _ ?_); clear q5 Q5)); (with_reducible refine' e_loc S ?hv9 ?_ ?hL9 ?hk9 ?hl9 ?hd9); (case hL9 => exact rfl); (case hk9 => exact rfl); (case hl9 => exact rfl); (case hd9 => decide); (case hv9 => exact rfl); (repeat ((with_reducible refine q5 _ _ ?_); clear q5 Q5)))
    (repeat ((with_reducible refine q5 _ _ ?_); clear q5 Q5)); exact ⟨rfl, St.ext S⟩
    
  · intro D ys vs' s₃ k9 hD hlD hlen hP hF9
    replace S := S.to k9; replace hcl := KC k9 hcl; replace hz0 := KP k9 hz0; clear k9
    have hns : NsL (List.range vs.length) vs' := NsL.ofGet (by simpa using hlen) (fun i y hy => by
      obtain ⟨t, e⟩ := hP i y hy
      have := (List.getElem?_eq_some_iff.mp hy).1
      (repeat ((with_reducible refine q5 _ _ ?_); clear q5 Q5)); exact ⟨i, by rw [List.getElem?_range (by omega)], t, e⟩)
    rw [paired_eq hF9] at hlD
    have hns2 := ns_filter hns rows
    clear hF9
    (repeat ((with_reducible refine q5 _ _ ?_); clear q5 Q5))
    refine u_add hz0.isList hlD (by
      have := List.length_filter_le (pOf rows) vs'
      simp; omega) fun c s' k9 hn hc => ?_
    replace S := S.to k9; replace hcl := KC k9 hcl; clear k9 hz0 hn
    
    ((repeat ((with_reducible refine q5 _ _ ?_); clear q5 Q5)); (with_reducible refine args_nil ?_); (repeat ((with_reducible refine q5 _ _ ?_); clear q5 Q5)))
    refine u_max R'.hh hc.isList (NsL.ints (NsL.cons (c := 0) hns2)) (by simp) fun m tm s' k9 hm hmx => ?_
    replace S := S.to k9; replace hcl := KC k9 hcl; clear k9 hc
    rw [hvl] at hm hmx
    obtain ⟨f, rfl, hf⟩ := isFirst_of hne hm hmx
    clear hm hmx
    
    
    ((repeat ((with_reducible refine q5 _ _ ?_); clear q5 Q5)); (with_reducible refine st_loc S hF ?_ ?hL9 ?hl9 ?hp9); (case hL9 => exact rfl); (case hl9 => exact rfl); (case hp9 => exact rfl); clear S; intro s' S d9 kk9; replace hcl := DC d9 hcl; clear d9 kk9; (repeat ((with_reducible refine q5 _ _ ?_); clear q5 Q5)); (with_reducible refine x_consG fun Q5 q5 => ?_); (with_reducible refine wpAny_Assign_Name ?_ ?hs9); (case hs9 => exact rfl); (with_reducible refine Subscript_ ?_; refine Tuple_ ?_); (with_reducible refine args_cons ?_ ?he9); (case he9 => exact rfl); (with_reducible refine l_0 ?_);  intro t s' k9; replace S := St.to S k9; replace hcl := KC k9 hcl; clear k9; (with_reducible refine args_cons ?_ ?he9); (case he9 => exact rfl); (with_reducible refine l_sl ?_);  intro t s' k9; replace S := St.to S k9; replace hcl := KC k9 hcl; clear k9; (with_reducible refine args_cons ?_ ?he9); (case he9 => exact rfl); (with_reducible refine l_2s ?_);  intro t s' k9; replace S := St.to S k9; replace hcl := KC k9 hcl; clear k9; (with_reducible refine args_cons ?_ ?he9); (case he9 => exact rfl); (with_reducible refine l_sl ?_);  intro t s' k9; replace S := St.to S k9; replace hcl := KC k9 hcl; clear k9; (with_reducible refine args_nil ?_); (repeat ((with_reducible refine q5 _ _ ?_); clear q5 Q5)))
    (refine n_tup (by first | exact Nat.le_of_ble_eq_true rfl | simp) fun a s' k9 hn ht => ?_); have naL := ne_of_fresh hn S.some; replace S := St.to S k9; replace hcl := KC k9 hcl; clear k9
    
    ((repeat ((with_reducible refine q5 _ _ ?_); clear q5 Q5)); (with_reducible refine Call_ ?_ ?he9); (case he9 => exact rfl); (with_reducible refine' e_blt (St.bs S) ?e9 ?hv9 ?_ ?hn9 ?hb9 ?hg9 ?hk9 ?hx9 ?hd9); (case hb9 => exact rfl); (case hg9 => exact rfl); (case hk9 => exact rfl); (case hx9 => exact rfl); (case hd9 => decide); (case hn9 => decide); (case e9 => k_is); (case hv9 => with_reducible first | exact bb_isinstance | exact bb_bytes | exact bb_str | exact bb_type | exact bb_issubclass | exact bb_len | exact bb_chr | exact bb_ord | exact bb_int | exact bb_range | exact bb_max | exact bb_min); (with_reducible refine callWith_builtin1 ?_ ?he9 ?hp9); (case he9 => exact rfl); (case hp9 => exact rfl); (with_reducible refine args_cons ?_ ?he9); (case he9 => exact rfl); (with_reducible refine Call_ ?_ ?he9); (case he9 => exact rfl); (with_reducible refine' e_glob (St.bs S) ?e9 ?_ ?hg9 ?hk9 ?hx9 ?hd9); (case hg9 => exact rfl); (case hk9 => exact rfl); (case hx9 => exact rfl); (case hd9 => decide); (case e9 => k_is); (with_reducible refine cf S ?hf9 ?_ ?he9); (case he9 => exact rfl); (case hf9 => k_is); (with_reducible refine args_cons ?_ ?he9); (case he9 => exact rfl); (with_reducible refine Subscript_ ?_); (with_reducible refine e_cell hcl ?_ ?hk9 ?hl9 ?hc9 ?hd9); (case hk9 => exact rfl); (case hl9 => exact rfl); (case hc9 => exact rfl); (case hd9 => decide); (with_reducible refine' e_loc S ?hv9 ?_ ?hL9 ?hk9 ?hl9 ?hd9); (case hL9 => exact rfl); (case hk9 => exact rfl); (case hl9 => exact rfl); (case hd9 => decide); (case hv9 => exact rfl); (repeat ((with_reducible refine q5 _ _ ?_); clear q5 Q5)))
    have hfl := hf.lt
    have hfv : f < vs.length := by omega
    obtain ⟨row, hrow, ar, vr, ear, _, hlr, hpr⟩ := hrv.2 f _ (List.getElem?_eq_getElem hfv)
    refine sub_li (KL (St.ext S) hrl) (by first | exact Int.natCast_nonneg _ | omega) (by omega) (by rw [Int.toNat_natCast]; exact List.getElem?_eq_getElem hfv) ?_ rfl
    rw [ear]
    ((repeat ((with_reducible refine q5 _ _ ?_); clear q5 Q5)); (with_reducible refine args_nil ?_); (with_reducible refine And.intro (Keeps.up (St.ext S)) ?_); (repeat ((with_reducible refine q5 _ _ ?_); clear q5 Q5)))
    have hrm := List.mem_of_getElem? hrow
    refine c_front R' (St.bs S) (Nat.le_trans (hz2 row hrm) (by omega)) (KL (St.ext S) hlr) (hpr.up (Keeps.up (St.ext S))) fun t' s' k9 => ?_
    replace S := S.to k9; replace hcl := KC k9 hcl; replace ht := KT k9 ht; clear k9
    ((repeat ((with_reducible refine q5 _ _ ?_); clear q5 Q5)); (with_reducible refine args_cons ?_ ?he9); (case he9 => exact rfl); (with_reducible refine e_int ?_);  intro t s' k9; replace S := St.to S k9; replace hcl := KC k9 hcl; replace ht := KT k9 ht; clear k9; (with_reducible refine args_nil ?_); (repeat ((with_reducible refine q5 _ _ ?_); clear q5 Q5)))
    refine u_min (b := 3) R'.hh fun t' s' k9 => ?_
    replace S := S.to k9; replace hcl := KC k9 hcl; replace ht := KT k9 ht; clear k9
    obtain ⟨tr, hroot⟩ : ∃ tr, [tx false [] _, tx false [47] _, tx false [47, 47] _, tx false [47] _][min (frontC row) 3]? = some (tx false (rootC (frontC row)) tr) := root_at _ _ _ _ _
    refine sub_ti ht (by first | exact Int.natCast_nonneg _ | omega) (by omega) (by rw [Int.toNat_natCast]; exact hroot) ?_ rfl
    clear ht hroot naL
    have hgd : rows.getD f [] = row := by rw [List.getD_eq_getElem?_getD, hrow]; rfl
    rw [← hgd]
    generalize hrt : rootC (frontC (rows.getD f [])) = rt
    
    ((repeat ((with_reducible refine q5 _ _ ?_); clear q5 Q5)); (with_reducible refine st_loc S hF ?_ ?hL9 ?hl9 ?hp9); (case hL9 => exact rfl); (case hl9 => exact rfl); (case hp9 => exact rfl); clear S; intro s' S d9 kk9; replace hcl := DC d9 hcl; clear d9 kk9; (repeat ((with_reducible refine q5 _ _ ?_); clear q5 Q5)); (with_reducible refine x_consG fun Q5 q5 => ?_); (with_reducible refine wpAny_Assign_Name ?_ ?hs9); (case hs9 => exact rfl); (with_reducible refine List_ ?_; refine args_nil ?_); (repeat ((with_reducible refine q5 _ _ ?_); clear q5 Q5)))
    have S0 := St.ext S
    (refine n_plain (by first | exact Nat.le_of_ble_eq_true rfl | simp) fun a s' k9 hn hl => ?_); have naL := ne_of_fresh hn S.some; replace S := St.to S k9; replace hcl := KC k9 hcl; clear k9
    have hn0 := fresh_of S0 hn
    clear hn S0
    have hp := hl; clear hl
    
    ((repeat ((with_reducible refine q5 _ _ ?_); clear q5 Q5)); (with_reducible refine st_loc S hF ?_ ?hL9 ?hl9 ?hp9); (case hL9 => exact rfl); (case hl9 => exact rfl); (case hp9 => exact rfl); clear S; intro s' S d9 kk9; replace hcl := DC d9 hcl; replace hp := DP d9 hp; clear d9 kk9; (repeat ((with_reducible refine q5 _ _ ?_); clear q5 Q5)); (with_reducible refine x_consG fun Q5 q5 => ?_); (with_reducible refine wpAny_Assign_Name ?_ ?hs9); (case hs9 => exact rfl); (with_reducible refine e_int ?_);  intro t s' k9; replace S := St.to S k9; replace hcl := KC k9 hcl; replace hp := KP k9 hp; clear k9; (with_reducible refine st_loc S hF ?_ ?hL9 ?hl9 ?hp9); (case hL9 => exact rfl); (case hl9 => exact rfl); (case hp9 => exact rfl); clear S; intro s' S d9 kk9; replace hcl := DC d9 hcl; replace hp := DP d9 hp; clear d9 kk9; (repeat ((with_reducible refine q5 _ _ ?_); clear q5 Q5)); (with_reducible refine x_consG fun Q5 q5 => ?_); (with_reducible refine wpAny_For ?_ ?hs9); (case hs9 => intro _; exact rfl); (with_reducible refine Subscript_ ?_; refine Subscript_ ?_); (with_reducible refine e_cell hcl ?_ ?hk9 ?hl9 ?hc9 ?hd9); (case hk9 => exact rfl); (case hl9 => exact rfl); (case hc9 => exact rfl); (case hd9 => decide); (with_reducible refine e_slice ?_; refine p_some ?_); (with_reducible refine' e_loc S ?hv9 ?_ ?hL9 ?hk9 ?hl9 ?hd9); (case hL9 => exact rfl); (case hk9 => exact rfl); (case hl9 => exact rfl); (case hd9 => decide); (case hv9 => exact rfl); (with_reducible refine p_none ?_; refine p_none ?_); (repeat ((with_reducible refine q5 _ _ ?_); clear q5 Q5)))
    (intro a9 s' k9 hsl; replace S := St.to S k9; replace hcl := KC k9 hcl; replace hp := KP k9 hp; clear k9)
    refine sub_ls (KL (St.ext S) hrl) hsl (.int _ _) .none (by omega) fun a1 s' k9 hn1 hl1 => ?_
    replace S := S.to k9; replace hcl := KC k9 hcl; replace hp := KP k9 hp; clear k9 hsl hn1
    rw [cut_from] at hl1
    
    ((repeat ((with_reducible refine q5 _ _ ?_); clear q5 Q5)); (with_reducible refine e_slice ?_; refine p_none ?_; refine p_none ?_; refine p_some ?_; refine UnaryOp_ ?_); (with_reducible refine e_int ?_);  intro t s' k9; replace S := St.to S k9; replace hcl := KC k9 hcl; replace hp := KP k9 hp; replace hl1 := KL k9 hl1; clear k9; (with_reducible refine u_neg ?_);  intro t s' k9; replace S := St.to S k9; replace hcl := KC k9 hcl; replace hp := KP k9 hp; replace hl1 := KL k9 hl1; clear k9; (repeat ((with_reducible refine q5 _ _ ?_); clear q5 Q5)))
    (intro a9 s' k9 hsl; replace S := St.to S k9; replace hcl := KC k9 hcl; replace hp := KP k9 hp; replace hl1 := KL k9 hl1; clear k9)
    refine sub_rev hl1 hsl (by rw [List.length_drop]; omega) fun a2 s' k9 hn2 hl2 => ?_
    have na2 := ne_of_fresh hn2 S.some
    have na2b := ne_of_fresh hn2 (plSome hp)
    replace S := S.to k9; replace hp := KP k9 hp; clear k9 hsl hn2 hl1 hcl
    
    refine it_list hl2 R'.hh fun I s9 T => ?_
    have hRW := (hrv.drop f).rev
    have hpx := (plSome hp)
    refine for_rule (σ := (Nat × List Pc) × (List Value × Tok)) [a] (fun σ => [(Str.ofString "root", tx false rt tr), (Str.ofString "kept", .ref a), (Str.ofString "debt", .int (σ.1.1 : Int) σ.2.2)])
      (fun i σ h => σ.1 = runL (((rows.drop f).reverse.take i).map List.reverse).flatten ∧ h.PlainList a σ.2.1.toArray ∧ PcL [] s.heap σ.1.2 σ.2.1 ∧ σ.1.2.length ≤ 1000 * i ∧ σ.1.2.length + σ.1.1 ≤ 1000 * i)
      ((0, []), ([], _)) T S hF (by simp; exact naL) (by simp; exact ⟨hn0, hpx⟩) (by simp; exact ⟨Ne.symm na2, Ne.symm na2b⟩) (fun i σ h h' x kk => ⟨x.1, x.2.1.at fun o e => kk a (by simp) o e, x.2.2⟩)
      ⟨rfl, rfl, rfl, trivial⟩ ⟨rfl, hp, .nil, by simp, by simp⟩ rfl rfl rfl ?_ ?_
    · clear hp hl2 hpx
      rintro i v ⟨st0, us0, td0⟩ s₁ E' hi hv9 ⟨hst, hp, hu, hw1, hw2⟩ S K
      refine gen fun Q8 q8 => ?_
      dsimp only at S hst hp hu hw1 hw2
      obtain ⟨row9, hrow9, ar9, vr9, rfl, _, hlr9, hpr9⟩ := hRW.2 _ _ hv9
      have hrm9 : row9 ∈ rows := by have := List.mem_of_getElem? hrow9; exact List.mem_of_mem_drop (List.mem_reverse.mp this)
      have hrl9 := hz2 row9 hrm9
      have hrv9 := hpr9.len
      have hi9 : i < 1000 := by rw [List.length_reverse, List.length_drop] at hi; omega
      have kb := KB.refl [L, a] s₁.heap
      
      ((repeat ((with_reducible refine q5 _ _ ?_); clear q5 Q5)); (repeat ((with_reducible refine q5 _ _ ?_); clear q5 Q5)); (with_reducible refine x_consG fun Q5 q5 => ?_); (with_reducible refine wpAny_For ?_ ?hs9); (case hs9 => intro _; exact rfl); (with_reducible refine Subscript_ ?_); (with_reducible refine' e_loc S ?hv9 ?_ ?hL9 ?hk9 ?hl9 ?hd9); (case hL9 => exact rfl); (case hk9 => exact rfl); (case hl9 => exact rfl); (case hd9 => decide); (case hv9 => exact rfl); (with_reducible refine e_slice ?_; refine p_none ?_; refine p_none ?_; refine p_some ?_; refine UnaryOp_ ?_); (with_reducible refine e_int ?_);  intro t s' k9; replace S := St.to S k9; replace hp := KP k9 hp; replace kb := kb.keeps k9; clear k9; (with_reducible refine u_neg ?_);  intro t s' k9; replace S := St.to S k9; replace hp := KP k9 hp; replace kb := kb.keeps k9; clear k9; (repeat ((with_reducible refine q5 _ _ ?_); clear q5 Q5)))
      (intro a9 s' k9 hsl; replace S := St.to S k9; replace hp := KP k9 hp; replace kb := kb.keeps k9; clear k9)
      refine sub_rev (KL (St.ext S) hlr9) hsl (by omega) fun b2 s' k9 hn2 hl2 => ?_
      have nb2 := ne_of_fresh hn2 S.some
      have nb2b := ne_of_fresh hn2 (plSome hp)
      replace S := S.to k9; replace hp := KP k9 hp; replace kb := kb.keeps k9; clear k9 hsl hn2
      refine it_list hl2 R'.hh fun I2 s9 T2 => ?_
      have hPR := hpr9.rev
      have hpx := (plSome hp)
      refine for_rule (σ := (Nat × List Pc) × (List Value × Tok)) [a] (fun σ => [(Str.ofString "root", tx false rt tr), (Str.ofString "kept", .ref a), (Str.ofString "debt", .int (σ.1.1 : Int) σ.2.2)])
        (fun j σ h => σ.1 = (row9.reverse.take j).foldl stepL st0 ∧ h.PlainList a σ.2.1.toArray ∧ PcL [] s.heap σ.1.2 σ.2.1 ∧ σ.1.2.length ≤ 1000 * i + j ∧ σ.1.2.length + σ.1.1 ≤ 1000 * i + j)
        (st0, (us0, td0)) T2 S hF (by simp; exact naL) (by simp; exact ⟨hn0, hpx⟩) (by simp; exact ⟨Ne.symm nb2, Ne.symm nb2b⟩) (fun i σ h h' x kk => ⟨x.1, x.2.1.at fun o e => kk a (by simp) o e, x.2.2⟩)
        ⟨rfl, rfl, rfl, trivial⟩ ⟨rfl, hp, hu, by omega, by omega⟩ rfl rfl rfl ?_ ?_
      · clear hp hl2 hpx kb S
        rintro j v ⟨⟨d1, kp1⟩, us1, td1⟩ s₂ E'' hj hv8 ⟨hst1, hp, hu, hw3, hw4⟩ S K2
        refine gen fun Q7 q7 => ?_
        dsimp only at S hst1 hp hu hw3 hw4
        obtain ⟨p, hpp, hpv⟩ := hPR.get hv8
        have hjl : j < row9.length := by rw [List.length_reverse] at hj; omega
        have hnew : (row9.reverse.take (j + 1)).foldl stepL st0 = stepL (d1, kp1) p := by rw [take_snoc hpp, List.foldl_append, ← hst1]; rfl
        have hul := hu.len
        have kb := KB.refl [L, a] s₂.heap
        
        
        ((repeat ((with_reducible refine q5 _ _ ?_); clear q5 Q5)); (repeat ((with_reducible refine q5 _ _ ?_); clear q5 Q5)); (with_reducible refine x_consG fun Q5 q5 => ?_); (with_reducible refine wpAny_If ?_); (with_reducible refine wpAny_isTrue_Compare1 ?_ ?hm9); (case hm9 => exact rfl); (with_reducible refine' e_loc S ?hv9 ?_ ?hL9 ?hk9 ?hl9 ?hd9); (case hL9 => exact rfl); (case hk9 => exact rfl); (case hl9 => exact rfl); (case hd9 => decide); (case hv9 => exact rfl); (with_reducible refine l_dd ?_);  intro t s' k9; replace S := St.to S k9; replace hp := KP k9 hp; replace kb := kb.keeps k9; clear k9; (repeat ((with_reducible refine q5 _ _ ?_); clear q5 Q5)))
        refine eq_pc (hpv.up (Keeps.up (St.ext S))) R'.cl ?_
        ((repeat ((with_reducible refine q5 _ _ ?_); clear q5 Q5)); (with_reducible refine wpAny_truthy_bool ?_); (repeat ((with_reducible refine q5 _ _ ?_); clear q5 Q5)))
        refine ite_b (fun h1 => ?_) (fun h1 => ?_)
        · have h1 := eq_of_beq h1
          ((repeat ((with_reducible refine q5 _ _ ?_); clear q5 Q5)); (repeat ((with_reducible refine q5 _ _ ?_); clear q5 Q5)); (with_reducible refine x_consG fun Q5 q5 => ?_); (with_reducible refine wpAny_AugAssign_Name ?_); (with_reducible refine' n_loc S ?hv9 ?_ ?hL9 ?hk9 ?hl9); (case hL9 => exact rfl); (case hk9 => exact rfl); (case hl9 => exact rfl); (case hv9 => exact rfl); (with_reducible refine e_int ?_);  intro t s' k9; replace S := St.to S k9; replace hp := KP k9 hp; replace kb := kb.keeps k9; clear k9; (with_reducible refine i_iaddN ?_);  intro t s' k9; replace S := St.to S k9; replace hp := KP k9 hp; replace kb := kb.keeps k9; clear k9; (with_reducible refine st_loc S hF ?_ ?hL9 ?hl9 ?hp9); (case hL9 => exact rfl); (case hl9 => exact rfl); (case hp9 => exact rfl); clear S; intro s' S d9 kk9; replace hp := DP d9 hp; replace kb := kb.trans (KB.but kk9 List.mem_cons_self); clear d9 kk9; (repeat ((with_reducible refine q5 _ _ ?_); clear q5 Q5)); (with_reducible refine wpAny_execs_nil ?_); (repeat ((with_reducible refine q5 _ _ ?_); clear q5 Q5)); (with_reducible refine wpAny_execs_nil ?_); (repeat ((with_reducible refine q5 _ _ ?_); clear q5 Q5)))
          (repeat ((with_reducible refine q5 _ _ ?_); clear q5 Q5)); exact q7 _ _ ⟨.inl rfl, ((_, _), (_, _)), ⟨by rw [hnew]; unfold stepL; exact (by rw [if_pos h1]), hp, hu, (by dsimp only; omega), (by dsimp only; omega)⟩, S.sub ⟨rfl, rfl, rfl, trivial⟩, kb⟩
        have h1 : p ≠ (false, [46, 46]) := by simpa using h1
        ((repeat ((with_reducible refine q5 _ _ ?_); clear q5 Q5)); (repeat ((with_reducible refine q5 _ _ ?_); clear q5 Q5)); (with_reducible refine x_consG fun Q5 q5 => ?_); (with_reducible refine wpAny_If ?_; refine isTrue_and ?_); (with_reducible refine wpAny_isTrue_Compare1 ?_ ?hm9); (case hm9 => exact rfl); (with_reducible refine' e_loc S ?hv9 ?_ ?hL9 ?hk9 ?hl9 ?hd9); (case hL9 => exact rfl); (case hk9 => exact rfl); (case hl9 => exact rfl); (case hd9 => decide); (case hv9 => exact rfl); (with_reducible refine l_0 ?_);  intro t s' k9; replace S := St.to S k9; replace hp := KP k9 hp; replace kb := kb.keeps k9; clear k9; (repeat ((with_reducible refine q5 _ _ ?_); clear q5 Q5)))
        refine ne_pc (hpv.up (Keeps.up (St.ext S))) R'.cl ?_
        ((repeat ((with_reducible refine q5 _ _ ?_); clear q5 Q5)); (with_reducible refine wpAny_truthy_bool ?_); (repeat ((with_reducible refine q5 _ _ ?_); clear q5 Q5)))
        refine ite_b (fun h2 => ?_) (fun h2 => ?_)
        · have h2 : p ≠ (false, []) := by simpa using h2
          ((repeat ((with_reducible refine q5 _ _ ?_); clear q5 Q5)); (with_reducible refine isTrue_and ?_); (with_reducible refine wpAny_isTrue_Compare1 ?_ ?hm9); (case hm9 => exact rfl); (with_reducible refine' e_loc S ?hv9 ?_ ?hL9 ?hk9 ?hl9 ?hd9); (case hL9 => exact rfl); (case hk9 => exact rfl); (case hl9 => exact rfl); (case hd9 => decide); (case hv9 => exact rfl); (with_reducible refine l_d ?_);  intro t s' k9; replace S := St.to S k9; replace hp := KP k9 hp; replace kb := kb.keeps k9; clear k9; (repeat ((with_reducible refine q5 _ _ ?_); clear q5 Q5)))
          refine ne_pc (hpv.up (Keeps.up (St.ext S))) R'.cl ?_
          ((repeat ((with_reducible refine q5 _ _ ?_); clear q5 Q5)); (with_reducible refine wpAny_truthy_bool ?_); (repeat ((with_reducible refine q5 _ _ ?_); clear q5 Q5)))
          refine ite_b (fun h3 => ?_) (fun h3 => ?_)
          · have h3 : p ≠ (false, [46]) := by simpa using h3
            ((repeat ((with_reducible refine q5 _ _ ?_); clear q5 Q5)); (with_reducible refine isTrue_and_nil ?_; refine ite_t ?_); (repeat ((with_reducible refine q5 _ _ ?_); clear q5 Q5)); (with_reducible refine x_consG fun Q5 q5 => ?_); (with_reducible refine wpAny_If ?_); (with_reducible refine wpAny_isTrue_Compare1 ?_ ?hm9); (case hm9 => exact rfl); (with_reducible refine' e_loc S ?hv9 ?_ ?hL9 ?hk9 ?hl9 ?hd9); (case hL9 => exact rfl); (case hk9 => exact rfl); (case hl9 => exact rfl); (case hd9 => decide); (case hv9 => exact rfl); (with_reducible refine e_int ?_);  intro t s' k9; replace S := St.to S k9; replace hp := KP k9 hp; replace kb := kb.keeps k9; clear k9; (with_reducible refine P.gt_int ?_; refine wpAny_truthy_bool ?_); (repeat ((with_reducible refine q5 _ _ ?_); clear q5 Q5)))
            refine ite_b (fun h4 => ?_) (fun h4 => ?_)
            · have h4 : 0 < d1 := by have := of_decide_eq_true h4; omega
              ((repeat ((with_reducible refine q5 _ _ ?_); clear q5 Q5)); (repeat ((with_reducible refine q5 _ _ ?_); clear q5 Q5)); (with_reducible refine x_consG fun Q5 q5 => ?_); (with_reducible refine wpAny_AugAssign_Name ?_); (with_reducible refine' n_loc S ?hv9 ?_ ?hL9 ?hk9 ?hl9); (case hL9 => exact rfl); (case hk9 => exact rfl); (case hl9 => exact rfl); (case hv9 => exact rfl); (with_reducible refine e_int ?_);  intro t s' k9; replace S := St.to S k9; replace hp := KP k9 hp; replace kb := kb.keeps k9; clear k9; (with_reducible refine i_isub ?_);  intro t s' k9; replace S := St.to S k9; replace hp := KP k9 hp; replace kb := kb.keeps k9; clear k9; (with_reducible refine st_loc S hF ?_ ?hL9 ?hl9 ?hp9); (case hL9 => exact rfl); (case hl9 => exact rfl); (case hp9 => exact rfl); clear S; intro s' S d9 kk9; replace hp := DP d9 hp; replace kb := kb.trans (KB.but kk9 List.mem_cons_self); clear d9 kk9; (repeat ((with_reducible refine q5 _ _ ?_); clear q5 Q5)); (with_reducible refine wpAny_execs_nil ?_); (repeat ((with_reducible refine q5 _ _ ?_); clear q5 Q5)); (with_reducible refine wpAny_execs_nil ?_); (repeat ((with_reducible refine q5 _ _ ?_); clear q5 Q5)); (with_reducible refine wpAny_execs_nil ?_); (repeat ((with_reducible refine q5 _ _ ?_); clear q5 Q5)); (with_reducible refine wpAny_execs_nil ?_); (repeat ((with_reducible refine q5 _ _ ?_); clear q5 Q5)))
              have ed : (d1 : Int) - 1 = ((d1 - 1 : Nat) : Int) := by omega
              rw [ed] at S
              (repeat ((with_reducible refine q5 _ _ ?_); clear q5 Q5)); exact q7 _ _ ⟨.inl rfl, ((_, _), (_, _)), ⟨by rw [hnew]; unfold stepL; exact (by rw [if_neg h1, if_pos ⟨h2, h3⟩, if_pos h4]), hp, hu, (by dsimp only; omega), (by dsimp only; omega)⟩, S.sub ⟨rfl, rfl, rfl, trivial⟩, kb⟩
            · have h4 : ¬ 0 < d1 := by have := of_decide_eq_false h4; omega
              ((repeat ((with_reducible refine q5 _ _ ?_); clear q5 Q5)); (repeat ((with_reducible refine q5 _ _ ?_); clear q5 Q5)); (with_reducible refine x_consG fun Q5 q5 => ?_); (with_reducible refine wpAny_Expr_any ?_ ?hi9 ?hs9); (case hi9 => exact rfl); (case hs9 => exact rfl); (with_reducible refine' MethodCall_ ?_ ?he9); (case he9 => exact rfl); (with_reducible refine' e_loc S ?hv9 ?_ ?hL9 ?hk9 ?hl9 ?hd9); (case hL9 => exact rfl); (case hk9 => exact rfl); (case hl9 => exact rfl); (case hd9 => decide); (case hv9 => exact rfl); (repeat ((with_reducible refine q5 _ _ ?_); clear q5 Q5)))
              refine gm_app hp ?_
              ((repeat ((with_reducible refine q5 _ _ ?_); clear q5 Q5)); (with_reducible refine cm1 ?_ ?he9 ?hp9); (case he9 => exact rfl); (case hp9 => exact rfl); (with_reducible refine args_cons ?_ ?he9); (case he9 => exact rfl); (with_reducible refine' e_loc S ?hv9 ?_ ?hL9 ?hk9 ?hl9 ?hd9); (case hL9 => exact rfl); (case hk9 => exact rfl); (case hl9 => exact rfl); (case hd9 => decide); (case hv9 => exact rfl); (with_reducible refine args_nil ?_); (repeat ((with_reducible refine q5 _ _ ?_); clear q5 Q5)))
              refine c_app hp (by omega) fun h' hp' k' => ?_
              replace S := S.but k' hn0 naL
              replace kb : KB [L, a] s₂.heap h' := kb.trans fun b o n e => k' b o (fun q => n (by rw [q]; simp)) e
              clear hp; have hp := hp'; clear hp' k'
              ((repeat ((with_reducible refine q5 _ _ ?_); clear q5 Q5)); (repeat ((with_reducible refine q5 _ _ ?_); clear q5 Q5)); (with_reducible refine wpAny_execs_nil ?_); (repeat ((with_reducible refine q5 _ _ ?_); clear q5 Q5)); (with_reducible refine wpAny_execs_nil ?_); (repeat ((with_reducible refine q5 _ _ ?_); clear q5 Q5)); (with_reducible refine wpAny_execs_nil ?_); (repeat ((with_reducible refine q5 _ _ ?_); clear q5 Q5)); (with_reducible refine wpAny_execs_nil ?_); (repeat ((with_reducible refine q5 _ _ ?_); clear q5 Q5)))
              (repeat ((with_reducible refine q5 _ _ ?_); clear q5 Q5)); exact q7 _ _ ⟨.inl rfl, ((_, _), (_, _)), ⟨by rw [hnew]; unfold stepL; exact (by rw [if_neg h1, if_pos ⟨h2, h3⟩, if_neg h4]), hp, (hu.app (.cons hpv .nil)), (by dsimp only; rw [List.length_append, List.length_singleton]; omega), (by dsimp only; rw [List.length_append, List.length_singleton]; omega)⟩, S.sub ⟨rfl, rfl, rfl, trivial⟩, kb⟩
          · have h3 : p = (false, [46]) := by simpa using h3
            ((repeat ((with_reducible refine q5 _ _ ?_); clear q5 Q5)); (with_reducible refine ite_f ?_); (repeat ((with_reducible refine q5 _ _ ?_); clear q5 Q5)); (with_reducible refine wpAny_execs_nil ?_); (repeat ((with_reducible refine q5 _ _ ?_); clear q5 Q5)); (with_reducible refine wpAny_execs_nil ?_); (repeat ((with_reducible refine q5 _ _ ?_); clear q5 Q5)); (with_reducible refine wpAny_execs_nil ?_); (repeat ((with_reducible refine q5 _ _ ?_); clear q5 Q5)))
            (repeat ((with_reducible refine q5 _ _ ?_); clear q5 Q5)); exact q7 _ _ ⟨.inl rfl, ((_, _), (_, _)), ⟨by rw [hnew]; unfold stepL; exact (by rw [if_neg h1, if_neg (fun x => x.2 h3)]), hp, hu, (by dsimp only; omega), (by dsimp only; omega)⟩, S.sub ⟨rfl, rfl, rfl, trivial⟩, kb⟩
        · have h2 : p = (false, []) := by simpa using h2
          ((repeat ((with_reducible refine q5 _ _ ?_); clear q5 Q5)); (with_reducible refine ite_f ?_); (repeat ((with_reducible refine q5 _ _ ?_); clear q5 Q5)); (with_reducible refine wpAny_execs_nil ?_); (repeat ((with_reducible refine q5 _ _ ?_); clear q5 Q5)); (with_reducible refine wpAny_execs_nil ?_); (repeat ((with_reducible refine q5 _ _ ?_); clear q5 Q5)); (with_reducible refine wpAny_execs_nil ?_); (repeat ((with_reducible refine q5 _ _ ?_); clear q5 Q5)))
          (repeat ((with_reducible refine q5 _ _ ?_); clear q5 Q5)); exact q7 _ _ ⟨.inl rfl, ((_, _), (_, _)), ⟨by rw [hnew]; unfold stepL; exact (by rw [if_neg h1, if_neg (fun x => x.1 h2)]), hp, hu, (by dsimp only; omega), (by dsimp only; omega)⟩, S.sub ⟨rfl, rfl, rfl, trivial⟩, kb⟩
        
      · clear hp hl2 hpx S
        rintro ⟨⟨d1, kp1⟩, us1, td1⟩ s₂ ⟨hst1, hp, hu, hw3, hw4⟩ S K2
        have kb := kb.trans K2
        dsimp only at S hst1 hp hu hw3 hw4 ⊢
        rw [List.length_reverse, hrv9] at hst1 hw3 hw4
        rw [List.take_of_length_le (by simp)] at hst1
        ((repeat ((with_reducible refine q5 _ _ ?_); clear q5 Q5)); (repeat ((with_reducible refine q5 _ _ ?_); clear q5 Q5)); (with_reducible refine wpAny_execs_nil ?_); (repeat ((with_reducible refine q5 _ _ ?_); clear q5 Q5)))
        (repeat ((with_reducible refine q5 _ _ ?_); clear q5 Q5)); exact q8 _ _ ⟨.inl rfl, ((_, _), (_, _)), ⟨by rw [take_snoc hrow9, List.map_append, List.flatten_append, hst1, hst]; unfold runL; rw [List.foldl_append]; simp, hp, hu, by dsimp only; omega, by dsimp only; omega⟩, S.sub ⟨rfl, rfl, rfl, trivial⟩, kb⟩
      
    · clear hp hl2 hpx
      rintro ⟨⟨d1, kp1⟩, us1, td1⟩ s₂ ⟨hst, hp, hu, hw1, hw2⟩ S K
      dsimp only at S hst hp hu hw1 hw2 ⊢
      have hil : (vs.drop f).reverse.length ≤ 1000 := by rw [List.length_reverse, List.length_drop]; omega
      have hul := hu.len
      have hrl2 : rt.length ≤ 2 := by rw [← hrt]; unfold rootC; split <;> (try split) <;> simp
      have hst2 : (d1, kp1) = runL (((rows.drop f).flatten).reverse) := by
        rw [hst, List.take_of_length_le (by simp; omega), List.reverse_flatten, List.map_reverse]
      have hd1 := congrArg Prod.fst hst2
      have hk1 := congrArg Prod.snd hst2
      dsimp only at hd1 hk1
      have hd2 : kp1.length + d1 ≤ 1000000 := by omega
      have hu2 : us1.length ≤ 1000000 := by omega
      clear hst hw1 hw2 hst2
      
      
      ((repeat ((with_reducible refine q5 _ _ ?_); clear q5 Q5)); (repeat ((with_reducible refine q5 _ _ ?_); clear q5 Q5)); (with_reducible refine x_consG fun Q5 q5 => ?_); (with_reducible refine wpAny_Return_some ?_; refine Tuple_ ?_); (with_reducible refine args_cons ?_ ?he9); (case he9 => exact rfl); (with_reducible refine' e_loc S ?hv9 ?_ ?hL9 ?hk9 ?hl9 ?hd9); (case hL9 => exact rfl); (case hk9 => exact rfl); (case hl9 => exact rfl); (case hd9 => decide); (case hv9 => exact rfl); (with_reducible refine args_cons ?_ ?he9); (case he9 => exact rfl); (with_reducible refine wpAny_BinOp ?_; refine IfExp_ ?_); (with_reducible refine isTrue_plain ?_ ?he9); (case he9 => exact rfl); (with_reducible refine' e_loc S ?hv9 ?_ ?hL9 ?hk9 ?hl9 ?hd9); (case hL9 => exact rfl); (case hk9 => exact rfl); (case hl9 => exact rfl); (case hd9 => decide); (case hv9 => exact rfl); (with_reducible refine truthy_tx ?hsz9 ?_); (case hsz9 => first | assumption | omega | (simp only [List.length_append, List.length_cons, List.length_nil]; omega)); intro s' k9; replace S := St.to S k9; replace hp := KP k9 hp; clear k9; (repeat ((with_reducible refine q5 _ _ ?_); clear q5 Q5)))
      refine ite_b (fun h1 => ?_) (fun h1 => ?_)
      · have h1 : rt ≠ [] := by simpa using h1
        ((repeat ((with_reducible refine q5 _ _ ?_); clear q5 Q5)); (with_reducible refine List_ ?_; refine args_nil ?_); (repeat ((with_reducible refine q5 _ _ ?_); clear q5 Q5)))
        (refine n_plain (by first | exact Nat.le_of_ble_eq_true rfl | simp) fun a s' k9 hn hl => ?_); have naL := ne_of_fresh hn S.some; replace S := St.to S k9; replace hp := KP k9 hp; clear k9
        clear hn
        
        ((repeat ((with_reducible refine q5 _ _ ?_); clear q5 Q5)); (with_reducible refine Subscript_ ?_); (with_reducible refine' e_loc S ?hv9 ?_ ?hL9 ?hk9 ?hl9 ?hd9); (case hL9 => exact rfl); (case hk9 => exact rfl); (case hl9 => exact rfl); (case hd9 => decide); (case hv9 => exact rfl); (with_reducible refine e_slice ?_; refine p_none ?_; refine p_none ?_; refine p_some ?_; refine UnaryOp_ ?_); (with_reducible refine e_int ?_);  intro t s' k9; replace S := St.to S k9; replace hp := KP k9 hp; replace hl := KP k9 hl; clear k9; (with_reducible refine u_neg ?_);  intro t s' k9; replace S := St.to S k9; replace hp := KP k9 hp; replace hl := KP k9 hl; clear k9; (repeat ((with_reducible refine q5 _ _ ?_); clear q5 Q5)))
        (intro a9 s' k9 hsl; replace S := St.to S k9; replace hp := KP k9 hp; replace hl := KP k9 hl; clear k9)
        refine sub_rev hp.isList hsl (by omega) fun b2 s' k9 hn2 hl2 => ?_
        replace S := S.to k9; replace hp := KP k9 hp; replace hl := KP k9 hl; clear k9 hsl hn2
        refine u_add hl.isList hl2 (by simp; omega) fun b3 s' k9 hn3 hl3 => ?_
        replace S := S.to k9; clear k9 hn3 hp hl hl2
        
        ((repeat ((with_reducible refine q5 _ _ ?_); clear q5 Q5)); (with_reducible refine args_nil ?_); (repeat ((with_reducible refine q5 _ _ ?_); clear q5 Q5)))
        (refine n_tup (by first | exact Nat.le_of_ble_eq_true rfl | simp) fun a s' k9 hn ht => ?_); have naL := ne_of_fresh hn S.some; replace S := St.to S k9; replace hl3 := KP k9 hl3; clear k9
        (repeat ((with_reducible refine q5 _ _ ?_); clear q5 Q5)); refine h f _ _ _ _ _ hf (St.ext S) (by rw [hrt]; exact ht) hl3.isList ?_
        rw [hrt]
        unfold leftL
        rw [← hd1, ← hk1]
        have hu' := (hu.up (Keeps.up (St.ext S))).rev
        
        rw [if_neg h1]
        exact hu'
        
      · have h1 : rt = [] := by simpa using h1
        ((repeat ((with_reducible refine q5 _ _ ?_); clear q5 Q5)); (with_reducible refine wpAny_BinOp ?_; refine List_ ?_); (with_reducible refine args_cons ?_ ?he9); (case he9 => exact rfl); (with_reducible refine l_dd ?_);  intro t s' k9; replace S := St.to S k9; replace hp := KP k9 hp; clear k9; (with_reducible refine args_nil ?_); (repeat ((with_reducible refine q5 _ _ ?_); clear q5 Q5)))
        (refine n_plain (by first | exact Nat.le_of_ble_eq_true rfl | simp) fun a s' k9 hn hl => ?_); have naL := ne_of_fresh hn S.some; replace S := St.to S k9; replace hp := KP k9 hp; clear k9
        clear hn
        
        ((repeat ((with_reducible refine q5 _ _ ?_); clear q5 Q5)); (with_reducible refine' e_loc S ?hv9 ?_ ?hL9 ?hk9 ?hl9 ?hd9); (case hL9 => exact rfl); (case hk9 => exact rfl); (case hl9 => exact rfl); (case hd9 => decide); (case hv9 => exact rfl); (repeat ((with_reducible refine q5 _ _ ?_); clear q5 Q5)))
        refine u_mul hl (by omega) fun b1 s' k9 hn1 hl1 => ?_
        replace S := S.to k9; replace hp := KP k9 hp; clear k9 hn1 hl
        have hl := hl1; clear hl1
        ((repeat ((with_reducible refine q5 _ _ ?_); clear q5 Q5)); (with_reducible refine Subscript_ ?_); (with_reducible refine' e_loc S ?hv9 ?_ ?hL9 ?hk9 ?hl9 ?hd9); (case hL9 => exact rfl); (case hk9 => exact rfl); (case hl9 => exact rfl); (case hd9 => decide); (case hv9 => exact rfl); (with_reducible refine e_slice ?_; refine p_none ?_; refine p_none ?_; refine p_some ?_; refine UnaryOp_ ?_); (with_reducible refine e_int ?_);  intro t s' k9; replace S := St.to S k9; replace hp := KP k9 hp; replace hl := KP k9 hl; clear k9; (with_reducible refine u_neg ?_);  intro t s' k9; replace S := St.to S k9; replace hp := KP k9 hp; replace hl := KP k9 hl; clear k9; (repeat ((with_reducible refine q5 _ _ ?_); clear q5 Q5)))
        (intro a9 s' k9 hsl; replace S := St.to S k9; replace hp := KP k9 hp; replace hl := KP k9 hl; clear k9)
        refine sub_rev hp.isList hsl (by omega) fun b2 s' k9 hn2 hl2 => ?_
        replace S := S.to k9; replace hp := KP k9 hp; replace hl := KP k9 hl; clear k9 hsl hn2
        refine u_add hl.isList hl2 (by simp; omega) fun b3 s' k9 hn3 hl3 => ?_
        replace S := S.to k9; clear k9 hn3 hp hl hl2
        
        ((repeat ((with_reducible refine q5 _ _ ?_); clear q5 Q5)); (with_reducible refine args_nil ?_); (repeat ((with_reducible refine q5 _ _ ?_); clear q5 Q5)))
        (refine n_tup (by first | exact Nat.le_of_ble_eq_true rfl | simp) fun a s' k9 hn ht => ?_); have naL := ne_of_fresh hn S.some; replace S := St.to S k9; replace hl3 := KP k9 hl3; clear k9
        (repeat ((with_reducible refine q5 _ _ ?_); clear q5 Q5)); refine h f _ _ _ _ _ hf (St.ext S) (by rw [hrt]; exact ht) hl3.isList ?_
        rw [hrt]
        unfold leftL
        rw [← hd1, ← hk1]
        have hu' := (hu.up (Keeps.up (St.ext S))).rev
        
        rw [if_pos h1]
        exact PcL.app (rep_pc [46, 46] d1) hu'
        
      
    
    
  
end
end Mine
end
section
open PySem
set_option maxRecDepth 100000
set_option maxHeartbeats 4000000
namespace Mine

/-- what normpath and the law from behind make of the same pieces -/
noncomputable def okC (c : List Nat) : Bool := c != [] && c != [46]
theorem okC_no {c : List Nat} (h : okC c = false) : c = [] ∨ c = [46] := by
  unfold okC at h
  by_cases h1 : c = []
  · exact .inl h1
  · right
    by_cases h2 : c = [46]
    · exact h2
    · simp [h1, h2] at h
theorem stack_filter (r : List Nat) : ∀ (l : List (List Nat)) (S : List (List Nat)), (l.filter okC).foldl (stepN r) S = l.foldl (stepN r) S
  | [], S => rfl
  | c :: l, S => by
    rw [List.filter_cons]
    cases h : okC c with
    | true => rw [if_pos rfl, List.foldl_cons, List.foldl_cons, stack_filter r l]
    | false => rw [if_neg (by decide), List.foldl_cons, stepN_skip (okC_no h), stack_filter r l]
noncomputable def stepT (st : Nat × List (List Nat)) (c : List Nat) : Nat × List (List Nat) :=
  if c = [46, 46] then (st.1 + 1, st.2) else if c ≠ [] ∧ c ≠ [46] then (if 0 < st.1 then (st.1 - 1, st.2) else (st.1, st.2 ++ [c])) else st
noncomputable def runT (l : List (List Nat)) : Nat × List (List Nat) := l.foldr (fun c st => stepT st c) (0, [])
noncomputable def drops (r : List Nat) : Nat → List (List Nat) → List (List Nat)
  | 0, S => S
  | n + 1, S => drops r n (stepN r S [46, 46])
theorem stack_run (r : List Nat) : ∀ (l : List (List Nat)) (S : List (List Nat)), l.foldl (stepN r) S = drops r (runT l).1 S ++ (runT l).2.reverse
  | [], S => by simp [runT, drops]
  | c :: l, S => by
    rw [List.foldl_cons, stack_run r l]
    have e : runT (c :: l) = stepT (runT l) c := rfl
    rw [e]
    unfold stepT
    by_cases h1 : c = [46, 46]
    · rw [if_pos h1, h1]; rfl
    rw [if_neg h1]
    by_cases h2 : c ≠ [] ∧ c ≠ [46]
    · rw [if_pos h2, stepN_app h2.1 h2.2 (.inl h1)]
      by_cases h3 : 0 < (runT l).1
      · rw [if_pos h3]
        obtain ⟨n, hn⟩ : ∃ n, (runT l).1 = n + 1 := ⟨(runT l).1 - 1, by omega⟩
        rw [hn]
        show drops r n (stepN r (S ++ [c]) [46, 46]) ++ _ = drops r n S ++ _
        rw [stepN_pop (by simp) (by simp) rfl (by simp) (by simpa using h1), List.dropLast_concat]
      · rw [if_neg h3]
        have h0 : (runT l).1 = 0 := by omega
        rw [h0]
        show S ++ [c] ++ (runT l).2.reverse = S ++ ((runT l).2 ++ [c]).reverse
        simp
    · rw [if_neg h2]
      have : c = [] ∨ c = [46] := by
        by_cases h : c = []
        · exact .inl h
        · exact .inr (by by_cases h' : c = [46]; exact h'; exact absurd ⟨h, h'⟩ h2)
      rw [stepN_skip this]
theorem drops_root {r : List Nat} (h : r ≠ []) : ∀ n, drops r n [] = []
  | 0 => rfl
  | n + 1 => by
    show drops r n (stepN r [] [46, 46]) = []
    rw [stepN_pop (by simp) (by simp) rfl (fun x => h x.1) (by simp)]
    exact drops_root h n
theorem drops_none : ∀ (n m : Nat), drops [] n (List.replicate m [46, 46]) = List.replicate (m + n) [46, 46]
  | 0, m => rfl
  | n + 1, m => by
    show drops [] n (stepN [] (List.replicate m [46, 46]) [46, 46]) = _
    have e : stepN [] (List.replicate m [46, 46]) [46, 46] = List.replicate (m + 1) [46, 46] := by
      rw [stepN_app (by simp) (by simp)]
      · rw [List.replicate_succ']
      · cases m with
        | zero => exact .inr (.inl ⟨rfl, rfl⟩)
        | succ m => exact .inr (.inr (by rw [List.getLast?_replicate]; simp))
    rw [e, drops_none n (m + 1)]; congr 1; omega
noncomputable def leftT (r : List Nat) (l : List (List Nat)) : List (List Nat) := (if r = [] then List.replicate (runT l).1 [46, 46] else []) ++ (runT l).2.reverse
theorem stack_left (r : List Nat) (l : List (List Nat)) : l.foldl (stepN r) [] = leftT r l := by
  rw [stack_run]
  unfold leftT
  by_cases h : r = []
  · rw [if_pos h]; subst h
    have := drops_none (runT l).1 0
    rw [Nat.zero_add] at this
    rw [show ([] : List (List Nat)) = List.replicate 0 [46, 46] from rfl, this]
  · rw [if_neg h, drops_root h]

/-- a row whose pieces bear no slash and whose hidden ones are not empty -/
noncomputable def OkRow (row : List Pc) : Prop := row ≠ [] ∧ ∀ p ∈ row, 47 ∉ enc p ∧ (p.1 = true → p.2 ≠ [])
theorem enc_is {p : Pc} (h : p.1 = true → p.2 ≠ []) {cs : List Nat} (hc : ∀ c ∈ cs, c < 128) : enc p = cs ↔ p = (false, cs) := by
  obtain ⟨b, ds⟩ := p
  cases b
  · constructor
    · intro e; have e : ds = cs := e; rw [e]
    · intro e; exact (Prod.mk.inj e).2
  · constructor
    · intro e
      exfalso
      cases ds with
      | nil => exact h rfl rfl
      | cons d ds =>
        have e : (d + 128) :: ds.map (· + 128) = cs := e
        have := hc (d + 128) (by rw [← e]; exact List.mem_cons_self)
        omega
    · intro e; cases e
theorem step_enc (st : Nat × List Pc) (p : Pc) (h : p.1 = true → p.2 ≠ []) : stepT (st.1, st.2.map enc) (enc p) = ((stepL st p).1, (stepL st p).2.map enc) := by
  unfold stepT stepL
  have e1 := enc_is h (cs := [46, 46]) (by simp)
  have e2 := enc_is h (cs := []) (by simp)
  have e3 := enc_is h (cs := [46]) (by simp)
  by_cases h1 : p = (false, [46, 46])
  · rw [if_pos (e1.mpr h1), if_pos h1]
  · rw [if_neg (fun x => h1 (e1.mp x)), if_neg h1]
    by_cases h2 : p ≠ (false, []) ∧ p ≠ (false, [46])
    · rw [if_pos h2, if_pos ⟨fun x => h2.1 (e2.mp x), fun x => h2.2 (e3.mp x)⟩]
      by_cases h3 : 0 < st.1
      · rw [if_pos h3, if_pos h3]
      · rw [if_neg h3, if_neg h3]; simp
    · rw [if_neg h2, if_neg (fun x => h2 ⟨fun y => x.1 (e2.mpr y), fun y => x.2 (e3.mpr y)⟩)]
theorem run_enc : ∀ (ps : List Pc), (∀ p ∈ ps, p.1 = true → p.2 ≠ []) → runT (ps.map enc) = ((runL ps.reverse).1, (runL ps.reverse).2.map enc)
  | [], _ => rfl
  | p :: ps, h => by
    have ih := run_enc ps fun q hq => h q (List.mem_cons_of_mem _ hq)
    have e : runT ((p :: ps).map enc) = stepT (runT (ps.map enc)) (enc p) := rfl
    have e2 : runL (p :: ps).reverse = stepL (runL ps.reverse) p := by unfold runL; rw [List.reverse_cons, List.foldl_append]; rfl
    rw [e, ih, e2, step_enc _ _ (h p List.mem_cons_self)]
theorem left_enc (r : List Nat) (ps : List Pc) (h : ∀ p ∈ ps, p.1 = true → p.2 ≠ []) : leftT r (ps.map enc) = (leftL r ps).map enc := by
  unfold leftT leftL
  rw [run_enc ps h, List.map_append, List.map_reverse]
  split
  · rw [List.map_replicate]; rfl
  · rfl

theorem lead (row : List Pc) (h : OkRow row) : ∃ u, jn47 (row.map enc) = List.replicate (frontC row) 47 ++ u ∧ sw u = false := by
  have free : ∀ (x : List Nat), 47 ∉ x → sw x = false := by
    intro x hx
    cases x with
    | nil => rfl
    | cons c r => unfold sw; simp; intro e; exact hx (by rw [e]; exact List.mem_cons_self)
  induction row with
  | nil => exact absurd rfl h.1
  | cons p row ih =>
    cases row with
    | nil => exact ⟨enc p, rfl, free _ (h.2 p List.mem_cons_self).1⟩
    | cons q row =>
      have hp := h.2 p List.mem_cons_self
      have e2 := enc_is hp.2 (cs := []) (by simp)
      rw [List.map_cons, jn_cons _ (by simp)]
      by_cases h1 : p = (false, [])
      · obtain ⟨u, hu, hs⟩ := ih ⟨by simp, fun x hx => h.2 x (List.mem_cons_of_mem _ hx)⟩
        refine ⟨u, ?_, hs⟩
        have : frontC (p :: q :: row) = frontC (q :: row) + 1 := by show (if p = (false, []) then _ else _) = _; rw [if_pos h1]
        rw [this, e2.mpr h1, hu, List.replicate_succ]; rfl
      · refine ⟨enc p ++ 47 :: jn47 ((q :: row).map enc), ?_, ?_⟩
        · have : frontC (p :: q :: row) = 0 := by show (if p = (false, []) then _ else _) = _; rw [if_neg h1]
          rw [this]; rfl
        · cases he : enc p with
          | nil => exact absurd (e2.mp he) h1
          | cons c r =>
            have := hp.1
            rw [he] at this
            unfold sw; simp; intro e; exact this (by rw [e]; exact List.mem_cons_self)
theorem sw_lead {n : Nat} {u : List Nat} (h : sw u = false) : sw (List.replicate n 47 ++ u) = decide (0 < n) := by
  cases n with
  | zero => simpa using h
  | succ n => rw [List.replicate_succ]; simp [sw]
theorem sw_false {u : List Nat} (h : sw u = false) : u = [] ∨ ∃ c r, u = c :: r ∧ c ≠ 47 := by
  cases u with
  | nil => exact .inl rfl
  | cons c r => exact .inr ⟨c, r, rfl, by unfold sw at h; simpa using h⟩
theorem srR_lead {n : Nat} {u : List Nat} (h : sw u = false) : srR (List.replicate n 47 ++ u) = rootC n := by
  unfold srR rootC
  rcases (by omega : n = 0 ∨ n = 1 ∨ n = 2 ∨ 3 ≤ n) with rfl | rfl | rfl | hn
  · rcases sw_false h with rfl | ⟨c, r, rfl, hc⟩ <;> simp_all
  · rcases sw_false h with rfl | ⟨c, r, rfl, hc⟩ <;> simp_all
  · rcases sw_false h with rfl | ⟨c, r, rfl, hc⟩ <;> simp_all [List.replicate]
  · obtain ⟨m, rfl⟩ : ∃ m, n = m + 3 := ⟨n - 3, by omega⟩
    simp [List.replicate_succ]
theorem sw_row {row : List Pc} (h : OkRow row) : sw (jn47 (row.map enc)) = decide (0 < frontC row) := by
  obtain ⟨u, e, hs⟩ := lead row h
  rw [e, sw_lead hs]
theorem srR_row {row : List Pc} (h : OkRow row) : srR (jn47 (row.map enc)) = rootC (frontC row) := by
  obtain ⟨u, e, hs⟩ := lead row h
  rw [e, srR_lead hs]
noncomputable def cmp (t : List Nat) : List (List Nat) := (sp47 t).filter okC
theorem cmp_row {row : List Pc} (h : OkRow row) : cmp (jn47 (row.map enc)) = (row.map enc).filter okC := by
  unfold cmp
  rw [sp_jn (by simpa using h.1) (fun p hp => by obtain ⟨q, hq, rfl⟩ := List.mem_map.mp hp; exact (h.2 q hq).1)]
theorem sp_cut (a b : List Nat) : sp47 (a ++ 47 :: b) = sp47 a ++ sp47 b := by
  induction a with
  | nil => rw [List.nil_append, sp_47]; rfl
  | cons c a ih =>
    by_cases h : c = 47
    · subst h; rw [List.cons_append, sp_47, sp_47, ih]; rfl
    · cases e : sp47 a with
      | nil => exact absurd e (sp_ne a)
      | cons x t =>
        rw [e] at ih
        rw [List.cons_append, sp_other h ih, sp_other h e]; rfl
theorem cmp_cut (a b : List Nat) : cmp (a ++ 47 :: b) = cmp a ++ cmp b := by unfold cmp; rw [sp_cut, List.filter_append]
theorem cmp_nil : cmp [] = [] := rfl
theorem ew_true {p : List Nat} (h : ew p = true) : ∃ q, p = q ++ [47] := by
  unfold ew at h
  rcases List.eq_nil_or_concat p with rfl | ⟨q, c, rfl⟩
  · cases h
  · rw [List.concat_eq_append] at h ⊢
    simp at h; exact ⟨q, by rw [h]⟩
theorem cmp_join {p b : List Nat} (h : sw b = false) : cmp (join2 p b) = cmp p ++ cmp b := by
  unfold join2
  rw [if_neg (by rw [h]; exact Bool.false_ne_true)]
  by_cases h1 : p.isEmpty = true
  · rw [if_pos h1, List.isEmpty_iff.mp h1]; rfl
  rw [if_neg h1]
  by_cases h2 : ew p = true
  · rw [if_pos h2]
    obtain ⟨q, rfl⟩ := ew_true h2
    rw [show q ++ [47] ++ b = q ++ 47 :: b by simp, cmp_cut, show q ++ [47] = q ++ 47 :: [] from rfl, cmp_cut, cmp_nil, List.append_nil]
  · rw [if_neg h2, cmp_cut]
theorem srR_app {p b : List Nat} (h1 : p ≠ []) (h : (ew p = true ∧ sw b = false) ∨ (ew p = false ∧ ∃ b', b = 47 :: b')) : srR (p ++ b) = srR p := by
  match p, h1, h with
  | [x], _, h =>
    by_cases hx : x = 47
    · subst hx
      rcases h with ⟨_, h⟩ | ⟨h, _⟩
      · rcases sw_false h with rfl | ⟨c, r, rfl, hc⟩
        · rfl
        · unfold srR; simp [hc]
      · cases h
    · unfold srR; simp [hx]
  | [x, y], _, h =>
    by_cases hx : x = 47
    · subst hx
      by_cases hy : y = 47
      · subst hy
        rcases h with ⟨_, h⟩ | ⟨h, _⟩
        · rcases sw_false h with rfl | ⟨c, r, rfl, hc⟩
          · rfl
          · unfold srR; simp [hc]
        · cases h
      · unfold srR; simp [hy]
    · unfold srR; simp [hx]
  | x :: y :: z :: p, _, _ => unfold srR; simp
theorem srR_join {p b : List Nat} (h : sw b = false) : srR (join2 p b) = srR p := by
  unfold join2
  rw [if_neg (by rw [h]; exact Bool.false_ne_true)]
  by_cases h1 : p.isEmpty = true
  · rw [if_pos h1, List.isEmpty_iff.mp h1]
    rcases sw_false h with rfl | ⟨c, r, rfl, hc⟩
    · rfl
    · unfold srR; simp [hc]
  rw [if_neg h1]
  have hne : p ≠ [] := fun e => h1 (by rw [e]; rfl)
  by_cases h2 : ew p = true
  · rw [if_pos h2]; exact srR_app hne (.inl ⟨h2, h⟩)
  · rw [if_neg h2]; exact srR_app hne (.inr ⟨by simpa using h2, _, rfl⟩)
theorem join_flat : ∀ (bs : List (List Nat)) (a : List Nat), (∀ b ∈ bs, sw b = false) → srR (joinL a bs) = srR a ∧ cmp (joinL a bs) = cmp a ++ (bs.map cmp).flatten
  | [], a, _ => ⟨rfl, by simp [joinL]⟩
  | b :: bs, a, h => by
    have ih := join_flat bs (join2 a b) fun x hx => h x (List.mem_cons_of_mem _ hx)
    have hb := h b List.mem_cons_self
    show srR (joinL (join2 a b) bs) = _ ∧ cmp (joinL (join2 a b) bs) = _
    rw [ih.1, ih.2, srR_join hb, cmp_join hb]
    exact ⟨rfl, by simp⟩
theorem cmp_srT (cs : List Nat) : (sp47 (srT cs)).filter okC = cmp cs := by
  have key : ∀ r, (sp47 (47 :: r)).filter okC = (sp47 r).filter okC := fun r => by rw [sp_47]; rfl
  unfold cmp srT
  split
  · rfl
  · rename_i h
    have h : cs.take 1 = [47] := by simpa using h
    obtain ⟨r, rfl⟩ : ∃ r, cs = 47 :: r := by
      cases cs with
      | nil => cases h
      | cons c r => simp at h; exact ⟨r, by rw [h]⟩
    split
    · rw [key]; rfl
    · rename_i h2
      simp at h2
      obtain ⟨r', rfl⟩ : ∃ r', r = 47 :: r' := by
        cases r with
        | nil => simp at h2
        | cons c r => have := h2.1; simp at this; exact ⟨r, by rw [this]⟩
      rw [key, key]; rfl
noncomputable def orDot (p : List Nat) : List Nat := if p = [] then [46] else p
theorem npath_eq (cs : List Nat) : npath cs = orDot (srR cs ++ jn47 ((cmp cs).foldl (stepN (srR cs)) [])) := by
  unfold npath orDot
  by_cases h : cs = []
  · subst h; rfl
  · rw [if_neg h]
    unfold stackN
    rw [← cmp_srT, stack_filter]
noncomputable def textsOf (rows : List (List Pc)) : List (List Nat) := rows.map fun row => jn47 (row.map enc)
noncomputable def joinAll : List (List Nat) → List Nat
  | [] => []
  | a :: bs => joinL a bs
theorem joinAll_first {ts : List (List Nat)} {f : Nat} (hf : f < ts.length) (h : f = 0 ∨ ∃ t, ts[f]? = some t ∧ sw t = true) : joinAll ts = joinAll (ts.drop f) := by
  rcases h with rfl | ⟨t, ht, hs⟩
  · rfl
  · cases f with
    | zero => rfl
    | succ f =>
      cases ts with
      | nil => simp at ht
      | cons a bs =>
        have ht : bs[f]? = some t := by simpa using ht
        have hfl := (List.getElem?_eq_some_iff.mp ht).1
        have e : bs = bs.take f ++ t :: bs.drop (f + 1) := by
          have h1 := List.take_append_drop f bs
          rw [List.drop_eq_getElem_cons hfl] at h1
          have h2 := (List.getElem?_eq_some_iff.mp ht).2
          rw [h2] at h1; exact h1.symm
        show joinL a bs = joinAll (bs.drop f)
        have e2 : bs.drop f = t :: bs.drop (f + 1) := by rw [List.drop_eq_getElem_cons hfl, (List.getElem?_eq_some_iff.mp ht).2]
        rw [e2]
        show joinL a bs = joinL t (bs.drop (f + 1))
        conv => lhs; rw [e]
        unfold joinL
        rw [List.foldl_append, List.foldl_cons]
        congr 1
        unfold join2
        rw [if_pos hs]
theorem cmp_texts : ∀ (rs : List (List Pc)), (∀ row ∈ rs, OkRow row) → ((textsOf rs).map cmp).flatten = (rs.flatten.map enc).filter okC
  | [], _ => rfl
  | row :: rs, h => by
    have e : textsOf (row :: rs) = jn47 (row.map enc) :: textsOf rs := rfl
    rw [e, List.map_cons, List.flatten_cons, List.flatten_cons, List.map_append, List.filter_append, cmp_row (h row List.mem_cons_self), cmp_texts rs fun x hx => h x (List.mem_cons_of_mem _ hx)]
/-- THE LAW OF NORMPATH: join, straightened, is what the law from behind leaves -/
theorem law_main {rows : List (List Pc)} {f : Nat} (ok : ∀ row ∈ rows, OkRow row) (hf : IsFirst rows f) :
    npath (joinAll (textsOf rows)) = orDot (rootC (frontC (rows.getD f [])) ++ jn47 ((leftL (rootC (frontC (rows.getD f []))) (rows.drop f).flatten).map enc)) := by
  have hfl : f < (textsOf rows).length := by unfold textsOf; rw [List.length_map]; exact hf.lt
  have hj : joinAll (textsOf rows) = joinAll ((textsOf rows).drop f) := by
    refine joinAll_first hfl ?_
    rcases hf.hit with h | ⟨row, hr, h⟩
    · exact .inl h
    · right
      refine ⟨jn47 (row.map enc), by unfold textsOf; rw [List.getElem?_map, hr]; rfl, ?_⟩
      rw [sw_row (ok row (List.mem_of_getElem? hr)), decide_eq_true h]
  have hd : rows.drop f = rows[f]'hf.lt :: rows.drop (f + 1) := List.drop_eq_getElem_cons hf.lt
  have hg : rows.getD f [] = rows[f]'hf.lt := by rw [List.getD_eq_getElem?_getD, List.getElem?_eq_getElem hf.lt]; rfl
  have ok0 : OkRow (rows[f]'hf.lt) := ok _ (List.getElem_mem hf.lt)
  have hj2 : joinAll ((textsOf rows).drop f) = joinL (jn47 ((rows[f]'hf.lt).map enc)) (textsOf (rows.drop (f + 1))) := by
    unfold textsOf
    rw [← List.map_drop, hd, List.map_cons]; rfl
  have hfree : ∀ b ∈ textsOf (rows.drop (f + 1)), sw b = false := by
    intro b hb
    unfold textsOf at hb
    obtain ⟨row, hr, rfl⟩ := List.mem_map.mp hb
    rw [sw_row (ok row (List.mem_of_mem_drop hr))]
    obtain ⟨j, hj⟩ := List.mem_iff_getElem?.mp hr
    rw [List.getElem?_drop] at hj
    rw [hf.past _ row (by omega) hj]; rfl
  obtain ⟨h1, h2⟩ := join_flat (textsOf (rows.drop (f + 1))) (jn47 ((rows[f]'hf.lt).map enc)) hfree
  have h3 : cmp (joinL (jn47 ((rows[f]'hf.lt).map enc)) (textsOf (rows.drop (f + 1)))) = ((rows.drop f).flatten.map enc).filter okC := by
    rw [h2, hd, List.flatten_cons, List.map_append, List.filter_append, cmp_row ok0]
    congr 1
    exact cmp_texts _ fun row hr => ok row (List.mem_of_mem_drop hr)
  rw [npath_eq, hj, hj2, h1, h3, srR_row ok0, stack_filter, stack_left, left_enc _ _ ?_, hg]
  intro p hp
  obtain ⟨row, hr, hpr⟩ := List.mem_flatten.mp hp
  exact ((ok row (List.mem_of_mem_drop hr)).2 p hpr).2
end Mine
end
section
open PySem
set_option maxRecDepth 100000
set_option maxHeartbeats 4000000
namespace Mine

theorem run_mem : ∀ (ps : List Pc) (st : Nat × List Pc) (q : Pc), q ∈ (ps.foldl stepL st).2 → q ∈ st.2 ∨ (q ∈ ps ∧ q ≠ (false, [46, 46]) ∧ q ≠ (false, []) ∧ q ≠ (false, [46]))
  | [], st, q, h => .inl h
  | p :: ps, st, q, h => by
    rw [List.foldl_cons] at h
    rcases run_mem ps _ q h with h | ⟨h, r⟩
    · unfold stepL at h
      split at h
      · exact .inl h
      · rename_i h1
        split at h
        · rename_i h2
          split at h
          · exact .inl h
          · rcases List.mem_append.mp h with h | h
            · exact .inl h
            · rw [List.mem_singleton.mp h]; exact .inr ⟨List.mem_cons_self, h1, h2.1, h2.2⟩
        · exact .inl h
    · exact .inr ⟨List.mem_cons_of_mem _ h, r⟩
theorem run_len : ∀ (ps : List Pc) (st : Nat × List Pc), (ps.foldl stepL st).1 + (ps.foldl stepL st).2.length ≤ st.1 + st.2.length + ps.length
  | [], st => Nat.le_refl _
  | p :: ps, st => by
    rw [List.foldl_cons]
    have ih := run_len ps (stepL st p)
    have : (stepL st p).1 + (stepL st p).2.length ≤ st.1 + st.2.length + 1 := by
      unfold stepL
      split
      · dsimp only; omega
      · split
        · split
          · dsimp only; omega
          · dsimp only; rw [List.length_append, List.length_singleton]; omega
        · omega
    simp only [List.length_cons]; omega
theorem left_mem {r : List Nat} {ps : List Pc} {p : Pc} (h : p ∈ leftL r ps) : p = (false, [46, 46]) ∨ (p ∈ ps ∧ p ≠ (false, [46, 46]) ∧ p ≠ (false, []) ∧ p ≠ (false, [46])) := by
  unfold leftL at h
  rcases List.mem_append.mp h with h | h
  · split at h
    · exact .inl (List.eq_of_mem_replicate h)
    · cases h
  · have h := List.mem_reverse.mp h
    unfold runL at h
    rcases run_mem _ _ _ h with h | ⟨h, r⟩
    · cases h
    · exact .inr ⟨List.mem_reverse.mp h, r⟩
theorem left_len (r : List Nat) (ps : List Pc) : (leftL r ps).length ≤ ps.length := by
  unfold leftL
  have h := run_len ps.reverse (0, [])
  rw [List.length_append, List.length_reverse]
  unfold runL at *
  simp only [List.length_nil, List.length_reverse] at h
  split
  · rw [List.length_replicate]; omega
  · rw [List.length_nil]; omega
theorem okRow_of_good {row : List Pc} (g : GoodRow row) : OkRow row := by
  refine ⟨g.1, fun p hp => ?_⟩
  obtain ⟨b, cs⟩ := p
  rcases g.2.2 _ hp with ⟨e, h⟩ | ⟨e, h⟩
  · have e : b = true := e
    subst e
    exact ⟨fun hm => by obtain ⟨d, _, e⟩ := List.mem_map.mp hm; omega, fun _ => h.1⟩
  · have e : b = false := e
    subst e
    refine ⟨?_, fun e => by cases e⟩
    show 47 ∉ cs
    rcases h with h | h | h
    · have h : cs = [] := h; rw [h]; simp
    · have h : cs = [46] := h; rw [h]; simp
    · have h : cs = [46, 46] := h; rw [h]; simp
theorem good_left {parts : List (List Pc)} (g : ∀ row ∈ parts, GoodRow row) {r : List Nat} {f : Nat} {p : Pc} (hp : p ∈ leftL r (parts.drop f).flatten) : GoodNm p ∧ GoodPc p := by
  rcases left_mem hp with rfl | ⟨h, h1, h2, h3⟩
  · exact ⟨⟨by simp, by simp [Sign], by simp, by simp⟩, .inr ⟨rfl, .inr (.inr rfl)⟩⟩
  · obtain ⟨row, hr, hpr⟩ := List.mem_flatten.mp h
    have gp := (g row (List.mem_of_mem_drop hr)).2.2 p hpr
    obtain ⟨b, cs⟩ := p
    rcases id gp with ⟨e, h⟩ | ⟨e, h⟩
    · have e : b = true := e
      subst e
      exact ⟨⟨h.1, h.2.2, Nat.le_trans h.2.1 (by decide), fun e => by cases e⟩, gp⟩
    · exfalso
      have e : b = false := e
      subst e
      rcases h with h | h | h
      · have h : cs = [] := h; exact h2 (by rw [h])
      · have h : cs = [46] := h; exact h3 (by rw [h])
      · have h : cs = [46, 46] := h; exact h1 (by rw [h])
noncomputable def nfOf (r : List Nat) (K : List Pc) : List Pc := if r = [] ∧ K = [] then [(false, [46])] else K
theorem jn_ne {l : List (List Nat)} (h : l ≠ []) (hp : ∀ p ∈ l, p ≠ []) : jn47 l ≠ [] := by
  cases l with
  | nil => exact absurd rfl h
  | cons p l =>
    have := hp p List.mem_cons_self
    cases l with
    | nil => exact this
    | cons q l => intro e; unfold jn47 at e; simp at e
theorem orDot_pth {r : List Nat} {K : List Pc} (hK : ∀ p ∈ K, GoodNm p) : orDot (r ++ jn47 (K.map enc)) = Pth r ((nfOf r K).map enc) := by
  unfold orDot nfOf
  by_cases h : r = [] ∧ K = []
  · rw [if_pos h, h.1, h.2]; rfl
  · rw [if_neg h, if_neg]
    · rfl
    · intro e
      have e1 := List.append_eq_nil_iff.mp e
      refine h ⟨e1.1, ?_⟩
      cases K with
      | nil => rfl
      | cons p K =>
        refine absurd e1.2 (jn_ne (by simp) fun q hq => ?_)
        obtain ⟨x, hx, rfl⟩ := List.mem_map.mp hq
        exact (hK x hx).enc.1
theorem nf_good {r : List Nat} {K : List Pc} (hK : ∀ p ∈ K, GoodNm p) : ∀ p ∈ nfOf r K, GoodNm p := by
  unfold nfOf
  split
  · intro p hp
    rw [List.mem_singleton.mp hp]
    exact ⟨by simp, by simp [Sign], by simp, by simp⟩
  · exact hK
theorem nf_len (r : List Nat) (K : List Pc) : (nfOf r K).length ≤ K.length + 1 := by
  unfold nfOf; split
  · simp
  · omega
theorem root_ok (n : Nat) : Root (rootC n) := by
  unfold rootC Root
  split
  · exact .inl rfl
  · split
    · exact .inr (.inr rfl)
    · exact .inr (.inl rfl)
theorem pth_small {r : List Nat} (hr : Root r) {NF : List Pc} (hN : ∀ p ∈ NF, p.2.length ≤ 12) (hl : NF.length ≤ 1000) : (Pth r (NF.map enc)).length ≤ 100000 := by
  unfold Pth
  have h1 : r.length ≤ 2 := by rcases hr with rfl | rfl | rfl <;> simp
  have h2 := BF.jn_len (NF.map enc)
  have h3 := sum_le (fun p => (enc p).length) 12 NF fun p hp => by rw [enc_len]; exact hN p hp
  have h4 : ((NF.map enc).map List.length).sum = (NF.map fun p => (enc p).length).sum := by rw [List.map_map]; rfl
  rw [List.length_append]
  rw [h4, List.length_map] at h2
  omega
theorem flat_len {parts : List (List Pc)} (g : ∀ row ∈ parts, GoodRow row) (f : Nat) : (parts.drop f).flatten.length ≤ 5 * parts.length := by
  have h1 : ∀ l : List (List Pc), (∀ row ∈ l, GoodRow row) → l.flatten.length ≤ 5 * l.length := by
    intro l
    induction l with
    | nil => intro _; simp
    | cons row l ih =>
      intro h
      have := ih fun x hx => h x (List.mem_cons_of_mem _ hx)
      have := (h row List.mem_cons_self).2.1
      simp only [List.flatten_cons, List.length_append, List.length_cons]; omega
  have := h1 (parts.drop f) fun row hr => g row (List.mem_of_mem_drop hr)
  rw [List.length_drop] at this; omega
theorem join2_len (p b : List Nat) : (join2 p b).length ≤ p.length + (b.length + 1) := by
  unfold join2
  split
  · omega
  · split
    · omega
    · split
      · rw [List.length_append]; omega
      · rw [List.length_append, List.length_cons]
        omega
theorem joinL_len : ∀ (bs : List (List Nat)) (a : List Nat), (∀ b ∈ bs, b.length ≤ 1000) → (joinL a bs).length ≤ a.length + 1001 * bs.length
  | [], a, _ => by simp [joinL]
  | b :: bs, a, h => by
    have ih := joinL_len bs (join2 a b) fun x hx => h x (List.mem_cons_of_mem _ hx)
    have := join2_len a b
    have := h b List.mem_cons_self
    show (joinL (join2 a b) bs).length ≤ _
    rw [List.length_cons]; omega
theorem joinL_oct : ∀ (bs : List (List Nat)) (a : List Nat), Oct a → (∀ b ∈ bs, Oct b) → Oct (joinL a bs)
  | [], a, o, _ => o
  | b :: bs, a, o, h => by
    show Oct (joinL (join2 a b) bs)
    refine joinL_oct bs _ ?_ fun x hx => h x (List.mem_cons_of_mem _ hx)
    have ob := h b List.mem_cons_self
    unfold join2
    split
    · exact ob
    · split
      · exact ob
      · split
        · exact Oct.app o ob
        · exact Oct.app o (Oct.cons (by decide) ob)
theorem text_small {row : List Pc} (g : GoodRow row) : (jn47 (row.map enc)).length ≤ 100 ∧ Oct (jn47 (row.map enc)) := by
  constructor
  · have h := g.sum
    have := BF.jn_len (row.map enc)
    omega
  · have key : ∀ l : List (List Nat), (∀ p ∈ l, Oct p) → Oct (jn47 l) := by
      intro l
      induction l with
      | nil => intro _; exact Oct.nil
      | cons p l ih =>
        intro h
        cases l with
        | nil => exact h p List.mem_cons_self
        | cons q l => exact Oct.app (h p List.mem_cons_self) (Oct.cons (by decide) (ih fun x hx => h x (List.mem_cons_of_mem _ hx)))
    exact key _ fun p hp => by obtain ⟨q, hq, rfl⟩ := List.mem_map.mp hp; exact encB q (g.2.2 q hq)

/-- the second reading: told, each name split -/
noncomputable def told (r : List Nat) (K : List Pc) : List (List Nat) := r :: K.map (·.2)
noncomputable def splitRows (ts : List (List Nat)) : List (List Pc) := ts.map fun t => (sp47 t).map fun c => (false, c)
theorem split_ok (ts : List (List Nat)) : ∀ row ∈ splitRows ts, OkRow row := by
  intro row hr
  obtain ⟨t, _, rfl⟩ := List.mem_map.mp hr
  refine ⟨by simpa using sp_ne t, fun p hp => ?_⟩
  obtain ⟨c, hc, rfl⟩ := List.mem_map.mp hp
  exact ⟨sp_free t c hc, fun e => by cases e⟩
theorem split_texts (ts : List (List Nat)) : textsOf (splitRows ts) = ts := by
  unfold textsOf splitRows
  rw [List.map_map]
  have : ∀ t, ((fun row : List Pc => jn47 (row.map enc)) ∘ fun t => (sp47 t).map fun c => (false, c)) t = t := by
    intro t
    show jn47 (((sp47 t).map fun c => (false, c)).map enc) = t
    rw [List.map_map]
    have : (enc ∘ fun c => (false, c)) = id := by funext c; rfl
    rw [this, List.map_id, jn_sp]
  rw [List.map_congr_left (g := id) fun t _ => this t, List.map_id]
theorem split_vis {r : List Nat} {ts : List (List Nat)} {f : Nat} {p : Pc} (h : p ∈ leftL r ((splitRows ts).drop f).flatten) : p.1 = false := by
  rcases left_mem h with rfl | ⟨h, _⟩
  · rfl
  · obtain ⟨row, hr, hp⟩ := List.mem_flatten.mp h
    have hr := List.mem_of_mem_drop hr
    obtain ⟨t, _, rfl⟩ := List.mem_map.mp hr
    obtain ⟨c, _, rfl⟩ := List.mem_map.mp hp
    rfl
theorem vis_map {K : List Pc} (h : ∀ p ∈ K, p.1 = false) : K.map enc = K.map (·.2) := by
  apply List.map_congr_left
  intro p hp
  obtain ⟨b, cs⟩ := p
  have : b = false := h _ hp
  subst this; rfl
theorem PcL.toTx {bad : List Addr} {h : Heap} {ps : List Pc} {vs : List Value} (x : PcL bad h ps vs) : (∀ p ∈ ps, p.1 = false) → TxL false (ps.map (·.2)) vs := by
  induction x with
  | nil => intro _; exact .nil
  | @cons p v ps vs hv _ ih =>
    intro hp
    obtain ⟨b, cs⟩ := p
    have : b = false := hp _ List.mem_cons_self
    subst this
    obtain ⟨t, rfl⟩ := hv
    exact .cons (ih fun q hq => hp q (List.mem_cons_of_mem _ hq))
end Mine
end
section
open PySem PySem.W PyProof.Rows PySem.Calls PySem.Builtin PySem.SeqAt
set_option maxRecDepth 100000
set_option maxHeartbeats 4000000
namespace Mine
open BF
section
variable {A : Around} {E : Value → Shared → Prop} {w : World} {s₀ s s' : Shared} {L : Addr} {env : Env} {vars : Vars}
noncomputable def CompUse (w : World) (A : Around) (env : Env) (scope : Scope) (cl : List (Str × Addr)) (e : Expr) (u : Value → Sem Unit) (Q : Flow → Shared → Prop) (E : Value → Shared → Prop) (it : Value) (s₂ : Shared) : Prop :=
  wpAny (model PG w) A (newList []) (fun acc s₃ => wpAny (model PG w) A (newFunctionEnv scope env.globals cl [] env.qual none .none (some env)) (fun cenv s₄ =>
    codeAny (model PG w) A (.compStart e 0 it acc { cenv with scope := relabel scope env }) (compPost (model PG w) A E (some u) (fun _ s' => Q .next s') acc cenv.locals) s₄) E s₃) E s₂
theorem a_comp {elt iter : Expr} {x y : Str} {px py : Pos} {ifs : List Expr} {scope : Scope} {cl : List (Str × Addr)} {pos spos : Pos} {Q : Flow → Shared → Prop}
    (h : wpAny (model PG w) A (eval iter env) (fun xv s₁ => wpAny (model PG w) A (pyIter xv) (CompUse w A env scope cl (.ListComp elt [⟨.Name x px, iter, ifs, 0⟩] scope pos) (assign (.Name y py) env) Q E) E s₁) E s)
    (hsw : swapsWith (.ListComp elt [⟨.Name x px, iter, ifs, 0⟩] scope pos) (some (.Name y py)) spos.line env = pure true)
    (hclos : closureFor scope env = pure cl) (hkind : scope.kind = .function)
    (hnames : ∀ y ∈ scope.names, y.2 = .local → scope.names.lookup y.1 = some .local)
    (hs : ∀ x, foldedSetIterable iter env x = pure x) :
    wpAny (model PG w) A (exec (.Assign [.Name y py] (.ListComp elt [⟨.Name x px, iter, ifs, 0⟩] scope pos) spos) env) Q E s := by
  rw [exec_Assign_Name_used _ _ _ _ hsw]
  refine wpAny_bind (wpAny_standAt (wpAny_bind ?_))
  show wpAny _ A (do let _ ← comprehension (.ListComp elt [⟨.Name x px, iter, ifs, 0⟩] scope pos) scope env _ (newList []) false (eval iter env) (some (assign (.Name y py) env))) _ _ s
  exact wpAny_bind (wpAny_mono (wpAny_comprehension_free (use := some (assign (.Name y py) env)) (Q := fun _ s' => Q .next s') rfl hs hclos hkind hnames h)
    (fun _ s' hq => wpAny_pure (wpAny_pure hq)) fun _ _ e => e)
theorem comp_goU {elt iter : Expr} {x y : Str} {px py : Pos} {scope : Scope} {cl : List (Str × Addr)} {pos : Pos} {Q : Flow → Shared → Prop} {ax : List Addr} {n : Nat} {P : Nat → Value → Prop} {I : Addr}
    (F : List Addr → Heap → Nat → Value → Prop) (hF : ∀ bad h h' i y, F bad h i y → KB bad h h' → F bad h' i y) (hnil : ∀ bad h i y, F bad h i y → F [] h i y)
    (T : Itr w A s s' ax n P I) (hax : ∀ a ∈ ax, ∃ o, s.heap.get? a = some o) (S : St w s₀ L vars s) (hL0 : s₀.heap.get? L = none) (hsz : n ≤ 1048576)
    (hcell : ∀ y ∈ scope.names, y.2 ≠ .cell) (hkind : scope.kind = .function) (hx : scope.names.lookup x = some .local)
    (hLe : env.locals = L) (hy : env.kindOf y = some .local) (hp : (env.scope.kind == .class || (env.scope.kind == .module && env.locals != env.globals)) = false)
    (helt : ∀ C i v s₃ E', i < n → P i v → Keeps s s₃ → St w s₃ C [(x, v)] s₃ →
      wpAny (model PG w) A (eval elt (compEnvC scope cl C env)) (fun y s₄ => Keeps s₃ s₄ ∧ ∀ bad, (∀ b ∈ bad, ∃ o, s₃.heap.get? b = some o) → F bad s₄.heap i y) E' s₃)
    (hQ : ∀ D (ys : List Value) s₃, St w s₀ L (vars.put y (.ref D)) s₃ → Dsv s.heap s₃.heap → L ≠ D → s₃.heap.IsList D ys.toArray → ys.length = n → (∀ i y, ys[i]? = some y → F [] s₃.heap i y) → Q .next s₃) :
    CompUse w A env scope cl (.ListComp elt [⟨.Name x px, iter, [], 0⟩] scope pos) (assign (.Name y py) env) Q E (.ref I) s' := by
  unfold CompUse
  refine comp_goR (RR := fun acc C => compPost (model PG w) A E (some (assign (.Name y py) env)) (fun _ s' => Q .next s') acc C) [L] (fun b hb => by rw [List.mem_singleton.mp hb]; exact S.some) F hF T hax S.bs hsz hcell hkind hx (fun C i v s₃ E' a b c d => wpAny_mono (helt C i v s₃ E' a b c d) (fun _ _ h => ⟨h.1, fun bad hb => h.2 bad fun b m => (hb b m).2⟩) fun _ _ e => e) ?_
  intro D C m ys s₃ hD hC hDC k hn hl hlen hFs _
  have hLD : L ≠ D := ne_of_fresh hD S.some
  have hLC : L ≠ C := ne_of_fresh hC S.some
  show wpAny _ A (assign (.Name y py) env (.ref D)) _ _ _
  refine wpAny_assign_Name (st_loc (S.to k) hL0 (fun s₄ S₄ d₄ k₄ => ?_) hLe hy hp)
  refine ⟨m, hn.at' fun o e => k₄ C o (Ne.symm hLC) e, fun h' hs' => ?_⟩
  have hC0 : s₀.heap.get? C = none := fresh_of S.ext hC
  have K5 : KB [C] s₄.heap h' := fun b o hb e => hs'.extBut b o (fun q => hb (by rw [q]; exact List.mem_cons_self)) e
  have S₅ : St w s₀ L (vars.put y (.ref D)) { s₄ with heap := h' } := S₄.kb (tk := s₄.toks) K5 (fun b hb => by rw [List.mem_singleton.mp hb]; exact hC0) (fun hm => hLC (List.mem_singleton.mp hm))
  refine hQ D ys _ S₅ (fun b o e nd => ?_) hLD ?_ hlen fun i y hy => ?_
  · exact K5 b o (fun q => by rw [List.mem_singleton.mp q, hC] at e; cases e) (d₄ b o (Keeps.up k _ _ e) nd)
  · exact lkb (hl.at fun o e => k₄ D o (Ne.symm hLD) e) K5 (fun q => hDC (List.mem_singleton.mp q))
  · have f1 := hFs i y hy
    exact hnil _ _ _ _ (hF _ _ _ _ _ f1 fun b o hb e => K5 b o (fun q => hb (by rw [List.mem_singleton.mp q]; simp)) (k₄ b o (fun q => hb (by rw [q]; simp)) e))
end
theorem NsL.app {cs ds : List Nat} {vs us : List Value} (h : NsL cs vs) (g : NsL ds us) : NsL (cs ++ ds) (vs ++ us) := by
  induction h with
  | nil => exact g
  | cons _ ih => exact .cons ih
theorem NsL.take {cs : List Nat} {vs : List Value} (h : NsL cs vs) : ∀ n, NsL (cs.take n) (vs.take n) := by
  induction h with
  | nil => intro n; simp; exact .nil
  | cons _ ih => intro n; cases n with
    | zero => exact .nil
    | succ n => exact .cons (ih n)
theorem NsL.drop {cs : List Nat} {vs : List Value} (h : NsL cs vs) : ∀ n, NsL (cs.drop n) (vs.drop n) := by
  induction h with
  | nil => intro n; simp; exact .nil
  | cons h ih => intro n; cases n with
    | zero => exact .cons h
    | succ n => exact ih n
theorem NsL.get {cs : List Nat} {vs : List Value} (h : NsL cs vs) : ∀ {i : Nat} {v : Value}, vs[i]? = some v → ∃ c t, cs[i]? = some c ∧ v = .int ((c : Nat) : Int) t := by
  induction h with
  | nil => intro i v e; simp at e
  | cons _ ih =>
    intro i v e
    cases i with
    | zero => simp at e; subst e; exact ⟨_, _, rfl, rfl⟩
    | succ i => rw [List.getElem?_cons_succ] at e; obtain ⟨c, t, hc, q⟩ := ih e; exact ⟨c, t, by rw [List.getElem?_cons_succ]; exact hc, q⟩
theorem ints_get {vs : List Value} {ns : List Int} (h : IntsAre vs ns) : ∀ {i : Nat} {v : Value}, vs[i]? = some v → ∃ n t, ns[i]? = some n ∧ v = .int n t := by
  induction h with
  | nil => intro i v e; simp at e
  | cons n t _ ih =>
    intro i v e
    cases i with
    | zero => simp at e; subst e; exact ⟨_, _, rfl, rfl⟩
    | succ i => rw [List.getElem?_cons_succ] at e; obtain ⟨c, t, hc, q⟩ := ih e; exact ⟨c, t, by rw [List.getElem?_cons_succ]; exact hc, q⟩
/-- the draws that the law takes of the script -/
noncomputable def draws (ns : List Int) : List Nat := (ns.take 8).map fun n => (n.fmod 1000000).toNat
theorem draw_get {vs : List Value} {ns : List Int} (h : IntsAre vs ns) {i : Nat} {v : Value} (e : (vs.take 8)[i]? = some v) : ∃ n t, v = .int n t ∧ (draws ns)[i]? = some (n.fmod 1000000).toNat := by
  have hi : i < 8 := by
    have := (List.getElem?_eq_some_iff.mp e).1
    rw [List.length_take] at this; omega
  rw [List.getElem?_take_of_lt hi] at e
  obtain ⟨n, t, hn, hv⟩ := ints_get h e
  exact ⟨n, t, hv, by unfold draws; rw [List.getElem?_map, List.getElem?_take_of_lt hi, hn]; rfl⟩
theorem draws_len (ns : List Int) : (draws ns).length ≤ 8 := by unfold draws; rw [List.length_map, List.length_take]; omega
theorem RowV.dsv {h h' : Heap} {row : List Pc} {v : Value} (x : RowV [] h row v) (k : Dsv h h') : RowV [] h' row v := by
  obtain ⟨a, vs, e, ha, hl, hp⟩ := x
  refine ⟨a, vs, e, ha, k.isList hl, hp.map fun p v q => ?_⟩
  obtain ⟨b, cs⟩ := p
  cases b
  · exact q
  · obtain ⟨g, t, e, hg, ht⟩ := q
    exact ⟨g, t, e, hg, k.isTuple ht⟩
theorem PcL.dsv {h h' : Heap} {ps : List Pc} {vs : List Value} (x : PcL [] h ps vs) (k : Dsv h h') : PcL [] h' ps vs := x.map fun p v q => by
  obtain ⟨b, cs⟩ := p
  cases b
  · exact q
  · obtain ⟨g, t, e, hg, ht⟩ := q
    exact ⟨g, t, e, hg, k.isTuple ht⟩
theorem RowsL.dsv {h h' : Heap} {rows : List (List Pc)} {vs : List Value} (x : RowsL h rows vs) (k : Dsv h h') : RowsL h' rows vs :=
  ⟨x.1, fun i v e => let ⟨row, hr, q⟩ := x.2 i v e; ⟨row, hr, q.dsv k⟩⟩
theorem rows_of {h : Heap} {P : List Pc → Prop} : ∀ (ys : List Value), (∀ (i : Nat) (y : Value), ys[i]? = some y → ∃ row, P row ∧ RowV [] h row y) → ∃ rows, RowsL h rows ys ∧ ∀ row ∈ rows, P row
  | [], _ => ⟨[], ⟨rfl, fun i v e => by simp at e⟩, fun _ h => by cases h⟩
  | y :: ys, g => by
    obtain ⟨row, hp, hr⟩ := g 0 y rfl
    obtain ⟨rows, ⟨h1, h2⟩, h3⟩ := rows_of ys fun i v e => g (i + 1) v e
    refine ⟨row :: rows, ⟨by simp [h1], fun i v e => ?_⟩, fun x hx => ?_⟩
    · cases i with
      | zero => simp at e; subst e; exact ⟨row, rfl, hr⟩
      | succ i => rw [List.getElem?_cons_succ] at e; obtain ⟨r, hr, q⟩ := h2 i v e; exact ⟨r, by rw [List.getElem?_cons_succ]; exact hr, q⟩
    · rcases List.mem_cons.mp hx with rfl | hx
      · exact hp
      · exact h3 x hx
theorem Room.eqU {A : Around} {n : Nat} (R : Room A (n + 2)) : A.units + 8 < 9900 := by have := R.un; omega
theorem told_small {r : List Nat} {K : List Pc} (hr : Root r) (hK : ∀ p ∈ K, GoodNm p ∧ GoodPc p) : ∀ t ∈ told r K, t.length ≤ 12 ∧ Oct t := by
  intro t ht
  rcases List.mem_cons.mp ht with rfl | ht
  · rcases hr with rfl | rfl | rfl <;> exact ⟨by simp, by intro c hc; simp at hc; try omega⟩
  · obtain ⟨p, hp, rfl⟩ := List.mem_map.mp ht
    exact ⟨(hK p hp).2.len, (hK p hp).2.octV⟩
theorem split_row_len {ts : List (List Nat)} (h : ∀ t ∈ ts, t.length ≤ 12) : ∀ row ∈ splitRows ts, row.length ≤ 13 := by
  intro row hr
  obtain ⟨t, ht, rfl⟩ := List.mem_map.mp hr
  rw [List.length_map]
  have := BF.sp_len t
  have := h t ht
  omega
theorem flat13 : ∀ (l : List (List Pc)), (∀ row ∈ l, row.length ≤ 13) → l.flatten.length ≤ 13 * l.length
  | [], _ => by simp
  | row :: l, h => by
    have := flat13 l fun x hx => h x (List.mem_cons_of_mem _ hx)
    have := h row List.mem_cons_self
    simp only [List.flatten_cons, List.length_append, List.length_cons]; omega
theorem split_left {ts : List (List Nat)} (h : ∀ t ∈ ts, t.length ≤ 12) (hn : ts.length ≤ 70) (r : List Nat) (f : Nat) :
    (leftL r ((splitRows ts).drop f).flatten).length ≤ 1000 ∧ ∀ p ∈ leftL r ((splitRows ts).drop f).flatten, p.2.length ≤ 12 := by
  constructor
  · have h1 := left_len r ((splitRows ts).drop f).flatten
    have h2 := flat13 ((splitRows ts).drop f) fun row hr => split_row_len h row (List.mem_of_mem_drop hr)
    have h3 : ((splitRows ts).drop f).length ≤ ts.length := by rw [List.length_drop]; unfold splitRows; rw [List.length_map]; omega
    omega
  · intro p hp
    rcases left_mem hp with rfl | ⟨hm, _⟩
    · simp
    · obtain ⟨row, hr, hpr⟩ := List.mem_flatten.mp hm
      obtain ⟨t, ht, rfl⟩ := List.mem_map.mp (List.mem_of_mem_drop hr)
      obtain ⟨c, hc, rfl⟩ := List.mem_map.mp hpr
      exact Nat.le_trans (BF.sp_part_len t c hc) (h t ht)
theorem txt_jn {K : List Pc} (h : ∀ p ∈ K, p.2.length ≤ 12) (hn : K.length ≤ 1000) : ((K.map (·.2)).map List.length).sum + (K.map (·.2)).length ≤ 13000 ∧ (jn47 (K.map (·.2))).length ≤ 13001 := by
  have h1 := sum_le (fun p : Pc => p.2.length) 12 K h
  have e : ((K.map (·.2)).map List.length).sum = (K.map fun p => p.2.length).sum := by rw [List.map_map]; rfl
  have h2 := BF.jn_len (K.map (·.2))
  rw [e, List.length_map] at *
  omega
theorem texts_small {parts : List (List Pc)} (g : ∀ row ∈ parts, GoodRow row) : ∀ t ∈ textsOf parts, t.length ≤ 100 ∧ Oct t := by
  intro t ht
  obtain ⟨row, hr, rfl⟩ := List.mem_map.mp ht
  exact text_small (g row hr)
theorem nf_small {r : List Nat} {K : List Pc} (h : ∀ p ∈ K, GoodNm p ∧ GoodPc p) : ∀ p ∈ nfOf r K, p.2.length ≤ 12 := by
  unfold nfOf
  split
  · intro p hp; rw [List.mem_singleton.mp hp]; simp
  · intro p hp; exact (h p hp).2.len
theorem cutS {M : Model} {A : Around} {E : Value → Shared → Prop} {w : World} {s₀ s : Shared} {L : Addr} {vars : Vars} {env : Env} {st : Stmt} {rest : List Stmt} {Q : Flow → Shared → Prop} (S : St w s₀ L vars s) (V : Addr → Vars) (T : List (List Nat))
    (h1 : wpAny M A (exec st env) (fun f s' => f = .next ∧ ∃ sh sv, St w s₀ L (V sh) s' ∧ Dsv s.heap s'.heap ∧ s'.heap.IsList sh (sv : List Value).toArray ∧ TxL false T sv) E s)
    (h2 : ∀ s' sh sv, St w s₀ L (V sh) s' → Dsv s.heap s'.heap → s'.heap.IsList sh (sv : List Value).toArray → TxL false T sv → wpAny M A (execs rest env) Q E s') : wpAny M A (execs (st :: rest) env) Q E s := by
  refine wpAny_execs_cons (wpAny_mono h1 (fun f s' q => ?_) fun _ _ x => x)
  obtain ⟨rfl, sh, sv, a, b, c, d⟩ := q
  exact h2 s' sh sv a b c d
theorem endB {c : ClaimW} {cl : Str → Option Addr} {mean : ExcName → Option Value} {args : List WData} {s₁ s' : Shared} (k : Keeps s₁ s') (hg : s₁.gens = #[]) (hn : ∀ cls, c.raises args cls = false) (hp : c.post args (.bool true) args = true) :
    GoodW c cl mean args s₁ (.ok (.ret (.bool true))) s' := by
  obtain ⟨h', tk, rfl, kk⟩ := k
  exact ⟨.inl ⟨_, .bool true, [], rfl, hn, .bool _, hp, fun _ => ⟨List.nodup_nil, fun _ h => by cases h⟩⟩, kk, rfl, hg⟩
/-- the law's call comes back with True -/
theorem law_post {A : Around} {m : Sem Flow} {M : Model} {E : Value → Shared → Prop} {s₁ s : Shared} {c : ClaimW} {cl : Str → Option Addr} {mean : ExcName → Option Value} {args : List WData} (hg : s₁.gens = #[])
    (h : wpAny M A m (fun fl s' => retOf fl = .bool true ∧ Keeps s₁ s') (fun _ _ => False) s) (hn : ∀ cls, c.raises args cls = false) (hp : c.post args (.bool true) args = true) :
    wpAny M A m (fun f s' => GoodW c cl mean args s₁ (.ok (.ret (match f with | .ret v => v | _ => .none))) s') E s := by
  refine wpAny_mono h (fun fl s' q => ?_) fun _ _ x => x.elim
  obtain ⟨q1, q2⟩ := q
  cases fl with
  | ret v => have q1 : v = .bool true := q1; subst q1; exact endB q2 hg hn hp
  | _ => cases q1
theorem law_in {w : World} {s₁ : Shared} {L : Addr} {h₁ : Heap} {tk : Nat} {f : Str → Option Value} {x : Str} {v : Value} {M : Model} {env : Env} {m : Sem Flow} {Q : Flow → Shared → Prop} {E : Value → Shared → Prop} (B : Base w s₁.heap) (F : Fr s₁.heap L h₁ f) (hm : f x = some v)
    (h : ∀ s, s₁.heap.get? L = none → St w s₁ L [(x, v)] s → Room (callerA.deeper env) 5 → wpAny M (callerA.deeper env) m Q E s) : wpAny M (callerA.deeper env) m Q E { s₁ with heap := h₁, toks := tk } := by
  have R : Room callerA 6 := ⟨rfl, by decide, by decide⟩
  refine h _ ?_ ⟨⟨_, _, rfl, F.keep⟩, ⟨_, F.ns, fun p hp => by rw [List.mem_singleton.mp hp]; exact hm⟩, B⟩ (R.deeper _)
  cases e : s₁.heap.get? L with
  | none => rfl
  | some o => exact absurd (Heap.lt_size e) (Nat.not_lt.mpr F.above)
end Mine
end
section
open PySem PySem.W PyProof.Rows PySem.Calls PySem.Builtin PySem.SeqAt
set_option maxRecDepth 100000
set_option maxHeartbeats 8000000
namespace Mine
open BF
theorem lawGoes : PySem.Challenge.rw_pd0010_01.Holds := by
  w_on; o_law; o_head (kHook KK KKas (fun _ => by kernel_rfl))
  (case hw => w_witness2)
  k_go0
  rename (Top _ _ _ _ _ _) => T9
  rename (Fr _ _ _ _) => F9
  rename ((Mine.KK _).In _) => KX9
  rename (_ = #[]) => hg9
  rename (IntsAre _ _) => hI9
  rename (PySem.Heap.IsList _ _ _) => hL9
  rename (¬ (_ < _)) => hc9
  have B : Base _ _ := ⟨KX9, ⟨_, T9.g⟩, ⟨_, T9.b, T9.builtins⟩, T9.nolimit⟩
  refine law_post hg9 ?_ (raisesW_false (by wrow_none_raised)) (by wrow_post)
  refine law_in B F9 (x := Str.ofString "script") rfl fun s hF S R' => ?_
  refine gen fun Q9 q9 => ?_
  clear F9 KX9 B
  obtain ⟨vs9, ns9, hL9, hI9, hc9⟩ : ∃ (vs : List Value) (ns : List Int), PySem.Heap.IsList _ _ vs.toArray ∧ IntsAre vs ns ∧ ns.length ≤ 63 := ⟨_, _, hL9, hI9, by omega⟩
  (try dsimp only)
  
  ((repeat ((with_reducible refine q5 _ _ ?_); clear q5 Q5)); (repeat ((with_reducible refine q5 _ _ ?_); clear q5 Q5)); (with_reducible refine x_consG fun Q5 q5 => ?_); (repeat ((with_reducible refine q5 _ _ ?_); clear q5 Q5)))
  refine a_comp (cl := []) ?_ rfl rfl rfl (by decide) (fun _ => rfl)
  ((repeat ((with_reducible refine q5 _ _ ?_); clear q5 Q5)); (with_reducible refine Subscript_ ?_); (with_reducible refine' e_loc S ?hv9 ?_ ?hL9 ?hk9 ?hl9 ?hd9); (case hL9 => exact rfl); (case hk9 => exact rfl); (case hl9 => exact rfl); (case hd9 => decide); (case hv9 => exact rfl); (with_reducible refine e_slice ?_; refine p_none ?_; refine p_some ?_); (with_reducible refine e_int ?_);  intro t s' k9; replace S := St.to S k9; skip; clear k9; (with_reducible refine p_none ?_); (repeat ((with_reducible refine q5 _ _ ?_); clear q5 Q5)))
  (intro a9 s' k9 hsl; replace S := St.to S k9; skip; clear k9)
  have hvl := hI9.length
  refine sub_ls (KL (St.ext S) hL9) hsl .none (.int _ _) (by omega) fun a1 s' k9 hn1 hl1 => ?_
  replace S := S.to k9; clear k9 hsl hn1
  rw [show (8 : Int) = ((8 : Nat) : Int) from rfl, cut_upto] at hl1
  refine it_list hl1 R'.hh fun I s9 T => ?_
  refine comp_goU (F := fun bad h i y => ∃ d : Nat, (draws ns9)[i]? = some d ∧ ∃ t, y = .int (d : Int) t) (fun _ _ _ _ _ x _ => x) (fun _ _ _ _ x => x) T (by simp; exact IsList.some hl1) S hF (by rw [List.length_take]; omega) (by decide) rfl rfl rfl rfl rfl ?_ ?_
  · intro C i v s₃ E' hi hv9 kk S
    refine gen fun Q8 q8 => ?_
    obtain ⟨n, t, rfl, hd⟩ := draw_get hI9 hv9
    ((repeat ((with_reducible refine q5 _ _ ?_); clear q5 Q5)); (with_reducible refine wpAny_BinOp ?_); (with_reducible refine Call_ ?_ ?he9); (case he9 => exact rfl); (with_reducible refine' e_blt (St.bs S) ?e9 ?hv9 ?_ ?hn9 ?hb9 ?hg9 ?hk9 ?hx9 ?hd9); (case hb9 => exact rfl); (case hg9 => exact rfl); (case hk9 => exact rfl); (case hx9 => exact rfl); (case hd9 => decide); (case hn9 => decide); (case e9 => k_is); (case hv9 => with_reducible first | exact bb_isinstance | exact bb_bytes | exact bb_str | exact bb_type | exact bb_issubclass | exact bb_len | exact bb_chr | exact bb_ord | exact bb_int | exact bb_range | exact bb_max | exact bb_min); (with_reducible refine PyProof.Rows.callWith_type1 ?_ ?he9 ?hp9); (case he9 => exact rfl); (case hp9 => exact rfl); (with_reducible refine args_cons ?_ ?he9); (case he9 => exact rfl); (with_reducible refine' e_loc S ?hv9 ?_ ?hL9 ?hk9 ?hl9 ?hd9); (case hL9 => exact rfl); (case hk9 => exact rfl); (case hl9 => exact rfl); (case hd9 => decide); (case hv9 => exact rfl); (with_reducible refine args_nil ?_; refine u_int ?_; refine wpAny_BinOp ?_); (with_reducible refine e_int ?_);  intro t s' k9; replace S := St.to S k9; skip; clear k9; (with_reducible refine e_int ?_);  intro t s' k9; replace S := St.to S k9; skip; clear k9; (repeat ((with_reducible refine q5 _ _ ?_); clear q5 Q5)))
    refine i_pow (a := 10) (n := 6) (by decide) (by decide) (by decide) fun t' s' k9 => ?_
    replace S := S.to k9; clear k9
    rw [show (10 : Int) ^ (Int.toNat 6) = 1000000 from rfl]
    ((repeat ((with_reducible refine q5 _ _ ?_); clear q5 Q5)); (with_reducible refine i_mod ?hb9 ?_); (case hb9 => decide); intro t s' k9; replace S := St.to S k9; skip; clear k9; (repeat ((with_reducible refine q5 _ _ ?_); clear q5 Q5)))
    (repeat ((with_reducible refine q5 _ _ ?_); clear q5 Q5)); exact q8 _ _ ⟨St.ext S, fun bad hb => ⟨_, hd, _, by rw [Int.toNat_of_nonneg (Int.fmod_nonneg_of_pos _ (by decide))]⟩⟩
  intro ac cv s' S2 _ naL hcl hclen hcf
  clear S T hl1; have S := S2; clear S2
  have hcn : NsL (draws ns9) cv := NsL.ofGet (by rw [hclen]; unfold draws; rw [List.length_map, List.length_take, List.length_take, hvl]) hcf
  clear hcf
  (try dsimp only)
  
  ((repeat ((with_reducible refine q5 _ _ ?_); clear q5 Q5)); (repeat ((with_reducible refine q5 _ _ ?_); clear q5 Q5)); (with_reducible refine x_consG fun Q5 q5 => ?_); (repeat ((with_reducible refine q5 _ _ ?_); clear q5 Q5)))
  refine a_comp (cl := []) ?_ rfl rfl rfl (by decide) (fun _ => rfl)
  ((repeat ((with_reducible refine q5 _ _ ?_); clear q5 Q5)); (with_reducible refine wpAny_BinOp ?_; refine wpAny_BinOp ?_; refine Subscript_ ?_); (with_reducible refine' e_loc S ?hv9 ?_ ?hL9 ?hk9 ?hl9 ?hd9); (case hL9 => exact rfl); (case hk9 => exact rfl); (case hl9 => exact rfl); (case hd9 => decide); (case hv9 => exact rfl); (with_reducible refine e_slice ?_; refine p_none ?_; refine p_some ?_); (with_reducible refine e_int ?_);  intro t s' k9; replace S := St.to S k9; replace hcl := KL k9 hcl; clear k9; (with_reducible refine p_none ?_); (repeat ((with_reducible refine q5 _ _ ?_); clear q5 Q5)))
  (intro a9 s' k9 hsl; replace S := St.to S k9; replace hcl := KL k9 hcl; clear k9)
  have hcvl := hcn.len
  have hdl := draws_len ns9
  refine sub_ls hcl hsl .none (.int _ _) (by omega) fun a1 s' k9 hn1 hl1 => ?_
  replace S := S.to k9; replace hcl := KL k9 hcl; clear k9 hsl hn1
  rw [show (4 : Int) = ((4 : Nat) : Int) from rfl, cut_upto] at hl1
  
  ((repeat ((with_reducible refine q5 _ _ ?_); clear q5 Q5)); (with_reducible refine List_ ?_); (with_reducible refine args_cons ?_ ?he9); (case he9 => exact rfl); (with_reducible refine e_int ?_);  intro t s' k9; replace S := St.to S k9; replace hcl := KL k9 hcl; replace hl1 := KL k9 hl1; clear k9; (with_reducible refine args_cons ?_ ?he9); (case he9 => exact rfl); (with_reducible refine e_int ?_);  intro t s' k9; replace S := St.to S k9; replace hcl := KL k9 hcl; replace hl1 := KL k9 hl1; clear k9; (with_reducible refine args_cons ?_ ?he9); (case he9 => exact rfl); (with_reducible refine e_int ?_);  intro t s' k9; replace S := St.to S k9; replace hcl := KL k9 hcl; replace hl1 := KL k9 hl1; clear k9; (with_reducible refine args_cons ?_ ?he9); (case he9 => exact rfl); (with_reducible refine e_int ?_);  intro t s' k9; replace S := St.to S k9; replace hcl := KL k9 hcl; replace hl1 := KL k9 hl1; clear k9; (with_reducible refine args_cons ?_ ?he9); (case he9 => exact rfl); (with_reducible refine e_int ?_);  intro t s' k9; replace S := St.to S k9; replace hcl := KL k9 hcl; replace hl1 := KL k9 hl1; clear k9; (with_reducible refine args_nil ?_); (repeat ((with_reducible refine q5 _ _ ?_); clear q5 Q5)))
  (refine n_plain (by first | exact Nat.le_of_ble_eq_true rfl | simp) fun a s' k9 hn hl => ?_); replace S := St.to S k9; replace hcl := KL k9 hcl; replace hl1 := KL k9 hl1; clear k9 hn
  obtain ⟨lv, hl, hlit⟩ : ∃ lv, PySem.Heap.PlainList _ a (lv : List Value).toArray ∧ NsL [16, 592, 31, 120, 24] lv := ⟨_, hl, .cons (.cons (.cons (.cons (.cons .nil))))⟩
  have hlvl := hlit.len
  refine u_add hl1 hl.isList (by rw [List.length_take]; simp at hlvl; omega) fun c1 s' k9 hn hc1 => ?_
  replace S := S.to k9; replace hcl := KL k9 hcl; clear k9 hl hl1 hn
  
  
  ((repeat ((with_reducible refine q5 _ _ ?_); clear q5 Q5)); (with_reducible refine Subscript_ ?_); (with_reducible refine' e_loc S ?hv9 ?_ ?hL9 ?hk9 ?hl9 ?hd9); (case hL9 => exact rfl); (case hk9 => exact rfl); (case hl9 => exact rfl); (case hd9 => decide); (case hv9 => exact rfl); (with_reducible refine e_slice ?_; refine p_some ?_); (with_reducible refine e_int ?_);  intro t s' k9; replace S := St.to S k9; replace hcl := KL k9 hcl; replace hc1 := KP k9 hc1; clear k9; (with_reducible refine p_none ?_; refine p_none ?_); (repeat ((with_reducible refine q5 _ _ ?_); clear q5 Q5)))
  (intro a9 s' k9 hsl; replace S := St.to S k9; replace hcl := KL k9 hcl; replace hc1 := KP k9 hc1; clear k9)
  refine sub_ls hcl hsl (.int _ _) .none (by omega) fun a1 s' k9 hn1 hl1 => ?_
  replace S := S.to k9; replace hc1 := KP k9 hc1; clear k9 hsl hn1 hcl
  rw [show (4 : Int) = ((4 : Nat) : Int) from rfl, cut_from] at hl1
  refine u_add hc1.isList hl1 (by rw [List.length_append, List.length_take, List.length_drop]; simp at hlvl; omega) fun c2 s' k9 hn hc2 => ?_
  replace S := S.to k9; clear k9 hl1 hn hc1
  
  have hdd := ((hcn.take 4).app hlit).app (hcn.drop 4)
  have hddl := hdd.len
  have hddn : ((draws ns9).take 4 ++ [16, 592, 31, 120, 24] ++ (draws ns9).drop 4).length ≤ 13 := by simp; omega
  have hdd5 : 5 ≤ ((draws ns9).take 4 ++ [16, 592, 31, 120, 24] ++ (draws ns9).drop 4).length := by simp; omega
  generalize hDD : (draws ns9).take 4 ++ [16, 592, 31, 120, 24] ++ (draws ns9).drop 4 = DD at *
  refine it_list hc2.isList R'.hh fun I s9 T => ?_
  refine comp_goU (F := fun bad h i y => ∃ row, GoodRow row ∧ RowV bad h row y) (fun _ _ _ _ _ x k => let ⟨row, g, r⟩ := x; ⟨row, g, r.kb k⟩) (fun _ _ _ _ x => let ⟨row, g, r⟩ := x; ⟨row, g, r.nob⟩) T (by simp; exact (plSome hc2)) S hF (by rw [hddl]; omega) (by decide) rfl rfl rfl rfl rfl ?_ ?_
  · intro C i v s₃ E' hi hv9 kk S
    refine gen fun Q8 q8 => ?_
    obtain ⟨d, t, hd, rfl⟩ := hdd.get hv9
    
    ((repeat ((with_reducible refine q5 _ _ ?_); clear q5 Q5)); (with_reducible refine Call_ ?_ ?he9); (case he9 => exact rfl); (with_reducible refine' e_glob (St.bs S) ?e9 ?_ ?hg9 ?hk9 ?hx9 ?hd9); (case hg9 => exact rfl); (case hk9 => exact rfl); (case hx9 => exact rfl); (case hd9 => decide); (case e9 => k_is); (with_reducible refine cf S ?hf9 ?_ ?he9); (case he9 => exact rfl); (case hf9 => k_is); (with_reducible refine args_cons ?_ ?he9); (case he9 => exact rfl); (with_reducible refine' e_loc S ?hv9 ?_ ?hL9 ?hk9 ?hl9 ?hd9); (case hL9 => exact rfl); (case hk9 => exact rfl); (case hl9 => exact rfl); (case hd9 => decide); (case hv9 => exact rfl); (with_reducible refine args_nil ?_); (with_reducible refine And.intro (Keeps.up (St.ext S)) ?_); (repeat ((with_reducible refine q5 _ _ ?_); clear q5 Q5)))
    refine c_part (R'.mono (by decide)) (St.bs S) fun row ra rvs s' gr k9 hn hl hp => ?_
    (repeat ((with_reducible refine q5 _ _ ?_); clear q5 Q5)); exact q8 _ _ ⟨Keeps.trans (St.ext S) k9, fun bad hb => ⟨row, gr, ra, rvs, rfl, fun hm => (by obtain ⟨o, e⟩ := hb _ hm; have := Keeps.up (St.ext S) _ _ e; rw [hn] at this; cases this), hl, hp bad fun b hm => (by obtain ⟨o, e⟩ := hb b hm; exact ⟨o, Keeps.up (St.ext S) _ _ e⟩)⟩⟩
    
  intro pa pv s' S2 _ naL hpl hplen hpf
  clear S T hc2; have S := S2; clear S2
  obtain ⟨parts, hrows, hgood⟩ := rows_of pv hpf
  have hpn : parts.length ≤ 13 := by rw [← hrows.1, hplen, hddl]; exact hddn
  have hp5 : 5 ≤ parts.length := by rw [← hrows.1, hplen, hddl]; exact hdd5
  clear hpf hplen hdd hddl hddn hdd5 hDD hlit hcn hcvl hdl hclen
  (try dsimp only)
  
  
  ((repeat ((with_reducible refine q5 _ _ ?_); clear q5 Q5)); (repeat ((with_reducible refine q5 _ _ ?_); clear q5 Q5)); (with_reducible refine x_consG fun Q5 q5 => ?_); (with_reducible refine PyProof.Rows.Assign_Tuple ?_ ?hs9 ?hw9); (case hs9 => exact rfl); (case hw9 => exact rfl); (with_reducible refine Call_ ?_ ?he9); (case he9 => exact rfl); (with_reducible refine' e_glob (St.bs S) ?e9 ?_ ?hg9 ?hk9 ?hx9 ?hd9); (case hg9 => exact rfl); (case hk9 => exact rfl); (case hx9 => exact rfl); (case hd9 => decide); (case e9 => k_is); (with_reducible refine cf S ?hf9 ?_ ?he9); (case he9 => exact rfl); (case hf9 => k_is); (with_reducible refine args_cons ?_ ?he9); (case he9 => exact rfl); (with_reducible refine' e_loc S ?hv9 ?_ ?hL9 ?hk9 ?hl9 ?hd9); (case hL9 => exact rfl); (case hk9 => exact rfl); (case hl9 => exact rfl); (case hd9 => decide); (case hv9 => exact rfl); (with_reducible refine args_nil ?_); (with_reducible refine And.intro (Keeps.up (St.ext S)) ?_); (repeat ((with_reducible refine q5 _ _ ?_); clear q5 Q5)))
  have hpne : parts ≠ [] := fun e => by rw [e] at hp5; simp at hp5
  refine c_left (R'.mono (by decide)) (St.bs S) hpne (by omega) (fun row hr => Nat.le_trans (hgood row hr).2.1 (by decide)) hpl hrows fun f tt kl t1 ku s' hf k9 ht hkl hku => ?_
  replace S := S.to k9; replace hpl := KL k9 hpl; replace hrows := hrows.up (Keeps.up k9); clear k9
  have hrt := root_ok (frontC (parts.getD f []))
  have hmain := law_main (fun row hr => okRow_of_good (hgood row hr)) hf
  have hKg : ∀ p ∈ leftL (rootC (frontC (parts.getD f []))) (parts.drop f).flatten, GoodNm p ∧ GoodPc p := fun p hp => good_left hgood hp
  have hKl : (leftL (rootC (frontC (parts.getD f []))) (parts.drop f).flatten).length ≤ 65 := by
    have := left_len (rootC (frontC (parts.getD f []))) (parts.drop f).flatten
    have := flat_len hgood f
    omega
  rw [orDot_pth fun p hp => (hKg p hp).1] at hmain
  generalize rootC (frontC (parts.getD f [])) = r at *
  generalize leftL r (parts.drop f).flatten = K at *
  have hrl : r.length ≤ 2 := by rcases hrt with rfl | rfl | rfl <;> simp
  have hkul := hku.len
  refine a_two S hF R'.hh ht (fun s' S2 d9 kk9 => ?_) rfl rfl rfl rfl
  clear S; have S := S2; clear S2; replace hpl := DL d9 hpl; replace hrows := hrows.dsv d9; replace hkl := DL d9 hkl; replace hku := hku.dsv d9; clear d9 kk9 ht hf
  
  
  ((repeat ((with_reducible refine q5 _ _ ?_); clear q5 Q5)); (repeat ((with_reducible refine q5 _ _ ?_); clear q5 Q5)); (with_reducible refine x_consG fun Q5 q5 => ?_); (with_reducible refine wpAny_Assign_Name ?_ ?hs9); (case hs9 => exact rfl); (with_reducible refine wpAny_BinOp ?_; refine List_ ?_); (with_reducible refine args_cons ?_ ?he9); (case he9 => exact rfl); (with_reducible refine' e_loc S ?hv9 ?_ ?hL9 ?hk9 ?hl9 ?hd9); (case hL9 => exact rfl); (case hk9 => exact rfl); (case hl9 => exact rfl); (case hd9 => decide); (case hv9 => exact rfl); (with_reducible refine args_nil ?_); (repeat ((with_reducible refine q5 _ _ ?_); clear q5 Q5)))
  (refine n_plain (by first | exact Nat.le_of_ble_eq_true rfl | simp) fun a s' k9 hn hl => ?_); replace S := St.to S k9; replace hpl := KL k9 hpl; replace hrows := hrows.up (Keeps.up k9); replace hkl := KL k9 hkl; replace hku := hku.up (Keeps.up k9); clear k9 hn
  have hl0 := hl; clear hl
  
  ((repeat ((with_reducible refine q5 _ _ ?_); clear q5 Q5)); (with_reducible refine e_comp (cl := []) ?_ ?hc9 ?hk9 ?hn9 ?hs9); (case hc9 => exact rfl); (case hk9 => exact rfl); (case hn9 => decide); (case hs9 => intro _; exact rfl); (with_reducible refine' e_loc S ?hv9 ?_ ?hL9 ?hk9 ?hl9 ?hd9); (case hL9 => exact rfl); (case hk9 => exact rfl); (case hl9 => exact rfl); (case hd9 => decide); (case hv9 => exact rfl); (repeat ((with_reducible refine q5 _ _ ?_); clear q5 Q5)))
  refine it_list hkl R'.hh fun I s9 T => ?_
  refine comp_go (F := fun bad h i y => ∃ p, K[i]? = some p ∧ ∃ t, y = tx false p.2 t) (fun _ _ _ _ _ x _ => x) (fun _ _ _ _ x => x) T (by simp; exact IsList.some hkl) (St.bs S) (by omega) (by decide) rfl rfl ?_ ?_
  · intro C i v s₃ E' hi hv9 kk S
    refine gen fun Q8 q8 => ?_
    obtain ⟨p, hp, hpv⟩ := hku.get hv9
    have hpv := hpv.up (Keeps.up kk)
    
    ((repeat ((with_reducible refine q5 _ _ ?_); clear q5 Q5)); (with_reducible refine IfExp_ ?_); (with_reducible refine isTrue_plain ?_ ?he9); (case he9 => exact rfl); (with_reducible refine Call_ ?_ ?he9); (case he9 => exact rfl); (with_reducible refine' e_blt (St.bs S) ?e9 ?hv9 ?_ ?hn9 ?hb9 ?hg9 ?hk9 ?hx9 ?hd9); (case hb9 => exact rfl); (case hg9 => exact rfl); (case hk9 => exact rfl); (case hx9 => exact rfl); (case hd9 => decide); (case hn9 => decide); (case e9 => k_is); (case hv9 => with_reducible first | exact bb_isinstance | exact bb_bytes | exact bb_str | exact bb_type | exact bb_issubclass | exact bb_len | exact bb_chr | exact bb_ord | exact bb_int | exact bb_range | exact bb_max | exact bb_min); (with_reducible refine callWith_builtin1 ?_ ?he9 ?hp9); (case he9 => exact rfl); (case hp9 => exact rfl); (with_reducible refine args_cons ?_ ?he9); (case he9 => exact rfl); (with_reducible refine' e_loc S ?hv9 ?_ ?hL9 ?hk9 ?hl9 ?hd9); (case hL9 => exact rfl); (case hk9 => exact rfl); (case hl9 => exact rfl); (case hd9 => decide); (case hv9 => exact rfl); (with_reducible refine args_cons ?_ ?he9); (case he9 => exact rfl); (with_reducible refine' e_blt (St.bs S) ?e9 ?hv9 ?_ ?hn9 ?hb9 ?hg9 ?hk9 ?hx9 ?hd9); (case hb9 => exact rfl); (case hg9 => exact rfl); (case hk9 => exact rfl); (case hx9 => exact rfl); (case hd9 => decide); (case hn9 => decide); (case e9 => k_is); (case hv9 => with_reducible first | exact bb_isinstance | exact bb_bytes | exact bb_str | exact bb_type | exact bb_issubclass | exact bb_len | exact bb_chr | exact bb_ord | exact bb_int | exact bb_range | exact bb_max | exact bb_min); (with_reducible refine args_nil ?_); (repeat ((with_reducible refine q5 _ _ ?_); clear q5 Q5)))
    obtain ⟨b, cs⟩ := p
    cases b
    · obtain ⟨t, rfl⟩ := hpv
      refine isi_str_str (x := sOf cs) ?_
      ((repeat ((with_reducible refine q5 _ _ ?_); clear q5 Q5)); (with_reducible refine wpAny_truthy_bool ?_; refine ite_t ?_); (with_reducible refine' e_loc S ?hv9 ?_ ?hL9 ?hk9 ?hl9 ?hd9); (case hL9 => exact rfl); (case hk9 => exact rfl); (case hl9 => exact rfl); (case hd9 => decide); (case hv9 => exact rfl); (repeat ((with_reducible refine q5 _ _ ?_); clear q5 Q5)))
      (repeat ((with_reducible refine q5 _ _ ?_); clear q5 Q5)); exact q8 _ _ ⟨St.ext S, fun bad hb => ⟨_, hp, _, rfl⟩⟩
    · obtain ⟨g1, t, rfl, _, ht⟩ := hpv
      
      refine isi_tup_str ht fun s' k9 => ?_
      replace S := St.to S k9; replace ht := KT k9 ht; clear k9
      ((repeat ((with_reducible refine q5 _ _ ?_); clear q5 Q5)); (with_reducible refine wpAny_truthy_bool ?_; refine ite_f ?_; refine Subscript_ ?_); (with_reducible refine' e_loc S ?hv9 ?_ ?hL9 ?hk9 ?hl9 ?hd9); (case hL9 => exact rfl); (case hk9 => exact rfl); (case hl9 => exact rfl); (case hd9 => decide); (case hv9 => exact rfl); (with_reducible refine e_int ?_);  intro t s' k9; replace S := St.to S k9; replace ht := KT k9 ht; clear k9; (repeat ((with_reducible refine q5 _ _ ?_); clear q5 Q5)))
      refine sub_ti ht (by decide) (by decide) rfl ?_ rfl
      (repeat ((with_reducible refine q5 _ _ ?_); clear q5 Q5)); exact q8 _ _ ⟨St.ext S, fun bad hb => ⟨_, hp, _, rfl⟩⟩
      
    
  intro D ys s₃ k9 hD hlD hlen hf
  replace S := St.to S k9; replace hpl := KL k9 hpl; replace hrows := hrows.up (Keeps.up k9); replace hkl := KL k9 hkl; replace hl0 := KP k9 hl0; clear k9 T
  have hT0 : TxL false (K.map (·.2)) ys := TxL.ofGet (by rw [hlen, hkul, List.length_map]) (fun i y hy => by
    obtain ⟨p, hp, t, e⟩ := hf i y hy
    (repeat ((with_reducible refine q5 _ _ ?_); clear q5 Q5)); exact ⟨p.2, by rw [List.getElem?_map, hp]; rfl, t, e⟩)
  clear hf hku
  
  (repeat ((with_reducible refine q5 _ _ ?_); clear q5 Q5))
  refine u_add hl0.isList hlD (by simp; omega) fun ta s' k9 hn hta => ?_
  replace S := St.to S k9; replace hpl := KL k9 hpl; replace hrows := hrows.up (Keeps.up k9); replace hkl := KL k9 hkl; clear k9 hn hl0 hlD
  obtain ⟨tv, hta, htv⟩ : ∃ tv, PySem.Heap.PlainList _ ta (tv : List Value).toArray ∧ TxL false (told r K) tv := ⟨_, hta, .cons hT0⟩
  clear hT0
  
  
  
  
  refine st_loc S hF (fun s' S2 d9 kk9 => ?_) rfl rfl rfl
  clear S; have S := S2; replace hpl := DL d9 hpl; replace hrows := hrows.dsv d9; replace hkl := DL d9 hkl; replace hta := DP d9 hta; clear d9 kk9 S2
  (repeat ((with_reducible refine q5 _ _ ?_); clear q5 Q5))
  refine cutS S (fun sh => [(Str.ofString "parts", .ref pa), (Str.ofString "told", .ref ta), (Str.ofString "shown", .ref sh)]) (r :: (nfOf r K).map (·.2)) ?_ ?_
  · have dv := S.dv0
    clear hpl hrows
    
    ((repeat ((with_reducible refine q5 _ _ ?_); clear q5 Q5)); (with_reducible refine wpAny_Assign_Name ?_ ?hs9); (case hs9 => exact rfl); (with_reducible refine IfExp_ ?_; refine isTrue_or ?_); (with_reducible refine isTrue_plain ?_ ?he9); (case he9 => exact rfl); (with_reducible refine' e_loc S ?hv9 ?_ ?hL9 ?hk9 ?hl9 ?hd9); (case hL9 => exact rfl); (case hk9 => exact rfl); (case hl9 => exact rfl); (case hd9 => decide); (case hv9 => exact rfl); (with_reducible refine truthy_tx ?hsz9 ?_); (case hsz9 => first | assumption | omega | (simp only [List.length_append, List.length_cons, List.length_nil]; omega)); intro s' k9; replace S := St.to S k9; replace dv := dv.trans (DsvL k9); replace hkl := KL k9 hkl; replace hta := KP k9 hta; clear k9; (repeat ((with_reducible refine q5 _ _ ?_); clear q5 Q5)))
    refine ite_b (fun h1 => ?_) (fun h1 => ?_)
    · have h1 : r ≠ [] := by simpa using h1
      ((repeat ((with_reducible refine q5 _ _ ?_); clear q5 Q5)); (with_reducible refine ite_t ?_); (with_reducible refine' e_loc S ?hv9 ?_ ?hL9 ?hk9 ?hl9 ?hd9); (case hL9 => exact rfl); (case hk9 => exact rfl); (case hl9 => exact rfl); (case hd9 => decide); (case hv9 => exact rfl); (with_reducible refine st_loc S hF ?_ ?hL9 ?hl9 ?hp9); (case hL9 => exact rfl); (case hl9 => exact rfl); (case hp9 => exact rfl); clear S; intro s' S d9 kk9; replace dv := dv.trans d9; replace hta := DP d9 hta; clear d9 kk9; (repeat ((with_reducible refine q5 _ _ ?_); clear q5 Q5)))
      (repeat ((with_reducible refine q5 _ _ ?_); clear q5 Q5)); exact ⟨rfl, _, _, S.sub ⟨rfl, rfl, rfl, trivial⟩, dv, hta.isList, by unfold nfOf; rw [if_neg (fun x => h1 x.1)]; exact htv⟩
    · have h1 : r = [] := by simpa using h1
      ((repeat ((with_reducible refine q5 _ _ ?_); clear q5 Q5)); (with_reducible refine isTrue_or ?_); (with_reducible refine isTrue_plain ?_ ?he9); (case he9 => exact rfl); (with_reducible refine' e_loc S ?hv9 ?_ ?hL9 ?hk9 ?hl9 ?hd9); (case hL9 => exact rfl); (case hk9 => exact rfl); (case hl9 => exact rfl); (case hd9 => decide); (case hv9 => exact rfl); (repeat ((with_reducible refine q5 _ _ ?_); clear q5 Q5)))
      refine u_truthy hkl (by omega) fun s' k9 => ?_
      replace S := S.to k9; replace dv := dv.trans (DsvL k9); replace hkl := KL k9 hkl; replace hta := KP k9 hta; clear k9
      refine ite_b (fun h2 => ?_) (fun h2 => ?_)
      · have h2 : K ≠ [] := fun e => by rw [e] at hkul; have : ku = [] := List.eq_nil_of_length_eq_zero hkul; rw [this] at h2; simp at h2
        ((repeat ((with_reducible refine q5 _ _ ?_); clear q5 Q5)); (with_reducible refine ite_t ?_); (with_reducible refine' e_loc S ?hv9 ?_ ?hL9 ?hk9 ?hl9 ?hd9); (case hL9 => exact rfl); (case hk9 => exact rfl); (case hl9 => exact rfl); (case hd9 => decide); (case hv9 => exact rfl); (with_reducible refine st_loc S hF ?_ ?hL9 ?hl9 ?hp9); (case hL9 => exact rfl); (case hl9 => exact rfl); (case hp9 => exact rfl); clear S; intro s' S d9 kk9; replace dv := dv.trans d9; replace hta := DP d9 hta; clear d9 kk9; (repeat ((with_reducible refine q5 _ _ ?_); clear q5 Q5)))
        (repeat ((with_reducible refine q5 _ _ ?_); clear q5 Q5)); exact ⟨rfl, _, _, S.sub ⟨rfl, rfl, rfl, trivial⟩, dv, hta.isList, by unfold nfOf; rw [if_neg (fun x => h2 x.2)]; exact htv⟩
      · have h2 : K = [] := by
          have : ku = [] := by simpa using h2
          rw [this] at hkul; exact List.eq_nil_of_length_eq_zero hkul.symm
        ((repeat ((with_reducible refine q5 _ _ ?_); clear q5 Q5)); (with_reducible refine isTrue_or_nil ?_; refine ite_f ?_; refine List_ ?_); (with_reducible refine args_cons ?_ ?he9); (case he9 => exact rfl); (with_reducible refine l_0 ?_);  intro t s' k9; replace S := St.to S k9; replace dv := dv.trans (DsvL k9); replace hkl := KL k9 hkl; replace hta := KP k9 hta; clear k9; (with_reducible refine args_cons ?_ ?he9); (case he9 => exact rfl); (with_reducible refine l_d ?_);  intro t s' k9; replace S := St.to S k9; replace dv := dv.trans (DsvL k9); replace hkl := KL k9 hkl; replace hta := KP k9 hta; clear k9; (with_reducible refine args_nil ?_); (repeat ((with_reducible refine q5 _ _ ?_); clear q5 Q5)))
        (refine n_plain (by first | exact Nat.le_of_ble_eq_true rfl | simp) fun a s' k9 hn hl => ?_); replace S := St.to S k9; replace dv := dv.trans (DsvL k9); clear k9 hn hta hkl
        
        ((repeat ((with_reducible refine q5 _ _ ?_); clear q5 Q5)); (with_reducible refine st_loc S hF ?_ ?hL9 ?hl9 ?hp9); (case hL9 => exact rfl); (case hl9 => exact rfl); (case hp9 => exact rfl); clear S; intro s' S d9 kk9; replace dv := dv.trans d9; replace hl := DP d9 hl; clear d9 kk9; (repeat ((with_reducible refine q5 _ _ ?_); clear q5 Q5)))
        (repeat ((with_reducible refine q5 _ _ ?_); clear q5 Q5)); exact ⟨rfl, _, _, S.sub ⟨rfl, rfl, rfl, trivial⟩, dv, hl.isList, by unfold nfOf; rw [if_pos ⟨h1, h2⟩, h1]; exact .cons (.cons .nil)⟩
        
    
  intro s' sh sv S2 d9 hsl hsv
  clear S; have S := S2; replace hpl := DL d9 hpl; replace hrows := hrows.dsv d9; replace hta := DP d9 hta; clear d9 S2 hkl
  have htvl := htv.len
  have htxs := texts_small hgood
  have htxl : (textsOf parts).length = parts.length := by unfold textsOf; rw [List.length_map]
  obtain ⟨t0, ts, htx⟩ : ∃ t0 ts, textsOf parts = t0 :: ts := by
    cases e : textsOf parts with
    | nil => rw [e] at htxl; simp at htxl; omega
    | cons a b => exact ⟨a, b, rfl⟩
  rw [htx] at hmain htxs htxl
  have hjl : (joinL t0 ts).length ≤ 900000 := by
    have := joinL_len ts t0 fun b hb => Nat.le_trans (htxs b (by simp [hb])).1 (by decide)
    have := (htxs t0 (by simp)).1
    simp at htxl
    omega
  have hjo : Oct (joinL t0 ts) := joinL_oct ts t0 (htxs t0 (by simp)).2 fun b hb => (htxs b (by simp [hb])).2
  have hmain : npath (joinL t0 ts) = _ := hmain
  have hnfl := nf_len r K
  have hpz := pth_small hrt (nf_small (r := r) hKg) (by omega)
  have hpvl := hrows.1
  
  
  
  ((repeat ((with_reducible refine q5 _ _ ?_); clear q5 Q5)); (repeat ((with_reducible refine q5 _ _ ?_); clear q5 Q5)); (with_reducible refine x_consG fun Q5 q5 => ?_); (with_reducible refine wpAny_Assign_Name ?_ ?hs9); (case hs9 => exact rfl); (with_reducible refine Call_ ?_ ?he9); (case he9 => exact rfl); (with_reducible refine' e_glob (St.bs S) ?e9 ?_ ?hg9 ?hk9 ?hx9 ?hd9); (case hg9 => exact rfl); (case hk9 => exact rfl); (case hx9 => exact rfl); (case hd9 => decide); (case e9 => k_is); (with_reducible refine cf S ?hf9 ?_ ?he9); (case he9 => exact rfl); (case hf9 => k_is); (with_reducible refine args_cons ?_ ?he9); (case he9 => exact rfl); (with_reducible refine Call_ ?_ ?he9); (case he9 => exact rfl); (with_reducible refine' e_glob (St.bs S) ?e9 ?_ ?hg9 ?hk9 ?hx9 ?hd9); (case hg9 => exact rfl); (case hk9 => exact rfl); (case hx9 => exact rfl); (case hd9 => decide); (case e9 => k_is); (with_reducible refine cf S ?hf9 ?_ ?he9); (case he9 => exact rfl); (case hf9 => k_is); (with_reducible refine args_cons ?_ ?he9); (case he9 => exact rfl); (with_reducible refine Call_ ?_ ?he9); (case he9 => exact rfl); (with_reducible refine' e_glob (St.bs S) ?e9 ?_ ?hg9 ?hk9 ?hx9 ?hd9); (case hg9 => exact rfl); (case hk9 => exact rfl); (case hx9 => exact rfl); (case hd9 => decide); (case e9 => k_is); (repeat ((with_reducible refine q5 _ _ ?_); clear q5 Q5)))
  refine cf_star S (by k_is) ?_ rfl
  ((repeat ((with_reducible refine q5 _ _ ?_); clear q5 Q5)); (with_reducible refine e_comp (cl := []) ?_ ?hc9 ?hk9 ?hn9 ?hs9); (case hc9 => exact rfl); (case hk9 => exact rfl); (case hn9 => decide); (case hs9 => intro _; exact rfl); (with_reducible refine' e_loc S ?hv9 ?_ ?hL9 ?hk9 ?hl9 ?hd9); (case hL9 => exact rfl); (case hk9 => exact rfl); (case hl9 => exact rfl); (case hd9 => decide); (case hv9 => exact rfl); (repeat ((with_reducible refine q5 _ _ ?_); clear q5 Q5)))
  refine it_list hpl R'.hh fun I s9 T => ?_
  refine comp_go (F := fun bad h i y => ∃ row, parts[i]? = some row ∧ ∃ t, y = tx false (jn47 (row.map enc)) t) (fun _ _ _ _ _ x _ => x) (fun _ _ _ _ x => x) T (by simp; exact IsList.some hpl) (St.bs S) (by omega) (by decide) rfl rfl ?_ ?_
  · intro C i v s₃ E' hi hv9 kk S
    refine gen fun Q8 q8 => ?_
    obtain ⟨row, hrow, ra, rvs, rfl, _, hrl9, hrp⟩ := hrows.2 _ _ hv9
    
    ((repeat ((with_reducible refine q5 _ _ ?_); clear q5 Q5)); (with_reducible refine Call_ ?_ ?he9); (case he9 => exact rfl); (with_reducible refine' e_glob (St.bs S) ?e9 ?_ ?hg9 ?hk9 ?hx9 ?hd9); (case hg9 => exact rfl); (case hk9 => exact rfl); (case hx9 => exact rfl); (case hd9 => decide); (case e9 => k_is); (with_reducible refine cf S ?hf9 ?_ ?he9); (case he9 => exact rfl); (case hf9 => k_is); (with_reducible refine args_cons ?_ ?he9); (case he9 => exact rfl); (with_reducible refine' e_loc S ?hv9 ?_ ?hL9 ?hk9 ?hl9 ?hd9); (case hL9 => exact rfl); (case hk9 => exact rfl); (case hl9 => exact rfl); (case hd9 => decide); (case hv9 => exact rfl); (with_reducible refine args_nil ?_); (with_reducible refine And.intro (Keeps.up (St.ext S)) ?_); (repeat ((with_reducible refine q5 _ _ ?_); clear q5 Q5)))
    refine c_signs (R'.mono (by decide)) (St.bs S) (hgood row (List.mem_of_getElem? hrow)) (lup (lup hrl9 (Keeps.up kk)) (Keeps.up (St.ext S))) ((hrp.up (Keeps.up kk)).up (Keeps.up (St.ext S))) fun t s' k9 => ?_
    (repeat ((with_reducible refine q5 _ _ ?_); clear q5 Q5)); exact q8 _ _ ⟨Keeps.trans (St.ext S) k9, fun bad hb => ⟨row, hrow, t, rfl⟩⟩
    
  intro D ys s₃ k9 hD hlD hlen hf
  replace S := S.to k9; replace hpl := KL k9 hpl; replace hrows := hrows.up (Keeps.up k9); replace hsl := KL k9 hsl; replace hta := KP k9 hta
  clear k9 T
  have hT : TxL false (textsOf parts) ys := TxL.ofGet (by rw [hlen, hpvl]; unfold textsOf; rw [List.length_map]) (fun i y hy => by
    obtain ⟨row, hrow, t, e⟩ := hf i y hy
    (repeat ((with_reducible refine q5 _ _ ?_); clear q5 Q5)); exact ⟨jn47 (row.map enc), by unfold textsOf; rw [List.getElem?_map, hrow]; rfl, t, e⟩)
  clear hf
  rw [htx] at hT
  cases hT with
  | cons hT =>
  refine ⟨D, _, rfl, St.ext S, hlD, by omega, fun s₂ k9 => ?_⟩
  replace S := S.to k9; replace hpl := KL k9 hpl; replace hrows := hrows.up (Keeps.up k9); replace hsl := KL k9 hsl; replace hta := KP k9 hta
  clear k9 hlD
  refine c_join (R'.mono (by decide)) (St.bs S) (htxs t0 (by simp)).2 (fun b hb => (htxs b (by simp [hb])).2) (Nat.le_trans (htxs t0 (by simp)).1 (by decide)) (fun b hb => Nat.le_trans (htxs b (by simp [hb])).1 (by decide)) (by simp at htxl; omega) hT fun t s' k9 => ?_
  replace S := S.to k9; replace hpl := KL k9 hpl; replace hrows := hrows.up (Keeps.up k9); replace hsl := KL k9 hsl; replace hta := KP k9 hta
  clear k9 hT
  ((repeat ((with_reducible refine q5 _ _ ?_); clear q5 Q5)); (with_reducible refine args_nil ?_); (with_reducible refine And.intro (Keeps.up (St.ext S)) ?_); (repeat ((with_reducible refine q5 _ _ ?_); clear q5 Q5)))
  refine c_normpath (R'.mono (by decide)) (St.bs S) hjo hjl fun t s' k9 => ?_
  replace S := S.to k9; replace hpl := KL k9 hpl; replace hrows := hrows.up (Keeps.up k9); replace hsl := KL k9 hsl; replace hta := KP k9 hta
  clear k9
  rw [hmain]
  ((repeat ((with_reducible refine q5 _ _ ?_); clear q5 Q5)); (with_reducible refine args_nil ?_); (with_reducible refine And.intro (Keeps.up (St.ext S)) ?_); (repeat ((with_reducible refine q5 _ _ ?_); clear q5 Q5)))
  refine c_climbed (k := false) (R'.mono (by decide)) (St.bs S) hrt (nf_good fun p hp => (hKg p hp).1) hpz (by omega) fun ca cys s' k9 hcl hct => ?_
  replace S := S.to k9; replace hpl := KL k9 hpl; replace hrows := hrows.up (Keeps.up k9); replace hsl := KL k9 hsl; replace hta := KP k9 hta
  clear k9
  have hsg := hcl
  have hsgt := hct
  clear hcl hct
  
  
  ((repeat ((with_reducible refine q5 _ _ ?_); clear q5 Q5)); (with_reducible refine st_loc S hF ?_ ?hL9 ?hl9 ?hp9); (case hL9 => exact rfl); (case hl9 => exact rfl); (case hp9 => exact rfl); clear S; intro s' S d9 kk9; replace hpl := DL d9 hpl; replace hrows := hrows.dsv d9; replace hsl := DL d9 hsl; replace hta := DP d9 hta; replace hsg := DL d9 hsg; clear d9 kk9; (repeat ((with_reducible refine q5 _ _ ?_); clear q5 Q5)); (with_reducible refine x_consG fun Q5 q5 => ?_); (with_reducible refine wpAny_Assign_Name ?_ ?hs9); (case hs9 => exact rfl); (with_reducible refine Call_ ?_ ?he9); (case he9 => exact rfl); (with_reducible refine' e_glob (St.bs S) ?e9 ?_ ?hg9 ?hk9 ?hx9 ?hd9); (case hg9 => exact rfl); (case hk9 => exact rfl); (case hx9 => exact rfl); (case hd9 => decide); (case e9 => k_is); (with_reducible refine cf S ?hf9 ?_ ?he9); (case he9 => exact rfl); (case hf9 => k_is); (with_reducible refine args_cons ?_ ?he9); (case he9 => exact rfl); (with_reducible refine Call_ ?_ ?he9); (case he9 => exact rfl); (with_reducible refine' e_glob (St.bs S) ?e9 ?_ ?hg9 ?hk9 ?hx9 ?hd9); (case hg9 => exact rfl); (case hk9 => exact rfl); (case hx9 => exact rfl); (case hd9 => decide); (case e9 => k_is); (with_reducible refine cf S ?hf9 ?_ ?he9); (case he9 => exact rfl); (case hf9 => k_is); (with_reducible refine args_cons ?_ ?he9); (case he9 => exact rfl); (with_reducible refine Call_ ?_ ?he9); (case he9 => exact rfl); (with_reducible refine' e_glob (St.bs S) ?e9 ?_ ?hg9 ?hk9 ?hx9 ?hd9); (case hg9 => exact rfl); (case hk9 => exact rfl); (case hx9 => exact rfl); (case hd9 => decide); (case e9 => k_is); (repeat ((with_reducible refine q5 _ _ ?_); clear q5 Q5)))
  refine cf_star S (by k_is) ?_ rfl
  ((repeat ((with_reducible refine q5 _ _ ?_); clear q5 Q5)); (with_reducible refine e_comp (cl := []) ?_ ?hc9 ?hk9 ?hn9 ?hs9); (case hc9 => exact rfl); (case hk9 => exact rfl); (case hn9 => decide); (case hs9 => intro _; exact rfl); (with_reducible refine' e_loc S ?hv9 ?_ ?hL9 ?hk9 ?hl9 ?hd9); (case hL9 => exact rfl); (case hk9 => exact rfl); (case hl9 => exact rfl); (case hd9 => decide); (case hv9 => exact rfl); (repeat ((with_reducible refine q5 _ _ ?_); clear q5 Q5)))
  refine it_list hpl R'.hh fun I s9 T => ?_
  refine comp_go (F := fun bad h i y => ∃ row, parts[i]? = some row ∧ ∃ t, y = tx true (jn47 (row.map enc)) t) (fun _ _ _ _ _ x _ => x) (fun _ _ _ _ x => x) T (by simp; exact IsList.some hpl) (St.bs S) (by omega) (by decide) rfl rfl ?_ ?_
  · intro C i v s₃ E' hi hv9 kk S
    refine gen fun Q8 q8 => ?_
    obtain ⟨row, hrow, ra, rvs, rfl, _, hrl9, hrp⟩ := hrows.2 _ _ hv9
    
    ((repeat ((with_reducible refine q5 _ _ ?_); clear q5 Q5)); (with_reducible refine Call_ ?_ ?he9); (case he9 => exact rfl); (with_reducible refine' e_glob (St.bs S) ?e9 ?_ ?hg9 ?hk9 ?hx9 ?hd9); (case hg9 => exact rfl); (case hk9 => exact rfl); (case hx9 => exact rfl); (case hd9 => decide); (case e9 => k_is); (with_reducible refine cf S ?hf9 ?_ ?he9); (case he9 => exact rfl); (case hf9 => k_is); (with_reducible refine args_cons ?_ ?he9); (case he9 => exact rfl); (with_reducible refine' e_loc S ?hv9 ?_ ?hL9 ?hk9 ?hl9 ?hd9); (case hL9 => exact rfl); (case hk9 => exact rfl); (case hl9 => exact rfl); (case hd9 => decide); (case hv9 => exact rfl); (with_reducible refine args_nil ?_); (with_reducible refine And.intro (Keeps.up (St.ext S)) ?_); (repeat ((with_reducible refine q5 _ _ ?_); clear q5 Q5)))
    refine c_octets (R'.mono (by decide)) (St.bs S) (hgood row (List.mem_of_getElem? hrow)) (lup (lup hrl9 (Keeps.up kk)) (Keeps.up (St.ext S))) ((hrp.up (Keeps.up kk)).up (Keeps.up (St.ext S))) fun t s' k9 => ?_
    (repeat ((with_reducible refine q5 _ _ ?_); clear q5 Q5)); exact q8 _ _ ⟨Keeps.trans (St.ext S) k9, fun bad hb => ⟨row, hrow, t, rfl⟩⟩
    
  intro D ys s₃ k9 hD hlD hlen hf
  replace S := S.to k9; replace hpl := KL k9 hpl; replace hrows := hrows.up (Keeps.up k9); replace hsl := KL k9 hsl; replace hta := KP k9 hta; replace hsg := KL k9 hsg
  clear k9 T
  have hT : TxL true (textsOf parts) ys := TxL.ofGet (by rw [hlen, hpvl]; unfold textsOf; rw [List.length_map]) (fun i y hy => by
    obtain ⟨row, hrow, t, e⟩ := hf i y hy
    (repeat ((with_reducible refine q5 _ _ ?_); clear q5 Q5)); exact ⟨jn47 (row.map enc), by unfold textsOf; rw [List.getElem?_map, hrow]; rfl, t, e⟩)
  clear hf
  rw [htx] at hT
  cases hT with
  | cons hT =>
  refine ⟨D, _, rfl, St.ext S, hlD, by omega, fun s₂ k9 => ?_⟩
  replace S := S.to k9; replace hpl := KL k9 hpl; replace hrows := hrows.up (Keeps.up k9); replace hsl := KL k9 hsl; replace hta := KP k9 hta; replace hsg := KL k9 hsg
  clear k9 hlD
  refine c_join (R'.mono (by decide)) (St.bs S) (htxs t0 (by simp)).2 (fun b hb => (htxs b (by simp [hb])).2) (Nat.le_trans (htxs t0 (by simp)).1 (by decide)) (fun b hb => Nat.le_trans (htxs b (by simp [hb])).1 (by decide)) (by simp at htxl; omega) hT fun t s' k9 => ?_
  replace S := S.to k9; replace hpl := KL k9 hpl; replace hrows := hrows.up (Keeps.up k9); replace hsl := KL k9 hsl; replace hta := KP k9 hta; replace hsg := KL k9 hsg
  clear k9 hT
  ((repeat ((with_reducible refine q5 _ _ ?_); clear q5 Q5)); (with_reducible refine args_nil ?_); (with_reducible refine And.intro (Keeps.up (St.ext S)) ?_); (repeat ((with_reducible refine q5 _ _ ?_); clear q5 Q5)))
  refine c_normpath (R'.mono (by decide)) (St.bs S) hjo hjl fun t s' k9 => ?_
  replace S := S.to k9; replace hpl := KL k9 hpl; replace hrows := hrows.up (Keeps.up k9); replace hsl := KL k9 hsl; replace hta := KP k9 hta; replace hsg := KL k9 hsg
  clear k9
  rw [hmain]
  ((repeat ((with_reducible refine q5 _ _ ?_); clear q5 Q5)); (with_reducible refine args_nil ?_); (with_reducible refine And.intro (Keeps.up (St.ext S)) ?_); (repeat ((with_reducible refine q5 _ _ ?_); clear q5 Q5)))
  refine c_climbed (k := true) (R'.mono (by decide)) (St.bs S) hrt (nf_good fun p hp => (hKg p hp).1) hpz (by omega) fun ca cys s' k9 hcl hct => ?_
  replace S := S.to k9; replace hpl := KL k9 hpl; replace hrows := hrows.up (Keeps.up k9); replace hsl := KL k9 hsl; replace hta := KP k9 hta; replace hsg := KL k9 hsg
  clear k9
  have hoc := hcl
  have hoct := hct
  clear hcl hct
  clear hrows hpl
  
  
  ((repeat ((with_reducible refine q5 _ _ ?_); clear q5 Q5)); (with_reducible refine st_loc S hF ?_ ?hL9 ?hl9 ?hp9); (case hL9 => exact rfl); (case hl9 => exact rfl); (case hp9 => exact rfl); clear S; intro s' S d9 kk9; replace hsl := DL d9 hsl; replace hta := DP d9 hta; replace hsg := DL d9 hsg; replace hoc := DL d9 hoc; clear d9 kk9; (repeat ((with_reducible refine q5 _ _ ?_); clear q5 Q5)); (with_reducible refine x_consG fun Q5 q5 => ?_); (with_reducible refine PyProof.Rows.Assign_Tuple ?_ ?hs9 ?hw9); (case hs9 => exact rfl); (case hw9 => exact rfl); (with_reducible refine Call_ ?_ ?he9); (case he9 => exact rfl); (with_reducible refine' e_glob (St.bs S) ?e9 ?_ ?hg9 ?hk9 ?hx9 ?hd9); (case hg9 => exact rfl); (case hk9 => exact rfl); (case hx9 => exact rfl); (case hd9 => decide); (case e9 => k_is); (with_reducible refine cf S ?hf9 ?_ ?he9); (case he9 => exact rfl); (case hf9 => k_is); (with_reducible refine args_cons ?_ ?he9); (case he9 => exact rfl); (with_reducible refine e_comp (cl := []) ?_ ?hc9 ?hk9 ?hn9 ?hs9); (case hc9 => exact rfl); (case hk9 => exact rfl); (case hn9 => decide); (case hs9 => intro _; exact rfl); (with_reducible refine' e_loc S ?hv9 ?_ ?hL9 ?hk9 ?hl9 ?hd9); (case hL9 => exact rfl); (case hk9 => exact rfl); (case hl9 => exact rfl); (case hd9 => decide); (case hv9 => exact rfl); (repeat ((with_reducible refine q5 _ _ ?_); clear q5 Q5)))
  have htold := told_small hrt hKg
  have htlen : (told r K).length ≤ 66 := by unfold told; rw [List.length_cons, List.length_map]; omega
  refine it_list hta.isList R'.hh fun I s9 T => ?_
  refine comp_go (F := fun bad h i y => ∃ t, (told r K)[i]? = some t ∧ RowV bad h ((sp47 t).map fun c => (false, c)) y) (fun _ _ _ _ _ x k => let ⟨t, a, b⟩ := x; ⟨t, a, b.kb k⟩) (fun _ _ _ _ x => let ⟨t, a, b⟩ := x; ⟨t, a, b.nob⟩) T (by simp; exact (plSome hta)) (St.bs S) (by omega) (by decide) rfl rfl ?_ ?_
  · intro C i v s₃ E' hi hv9 kk S
    refine gen fun Q8 q8 => ?_
    obtain ⟨tx9, tk9, htt, rfl⟩ := htv.getV hv9
    have hts := htold tx9 (List.mem_of_getElem? htt)
    
    ((repeat ((with_reducible refine q5 _ _ ?_); clear q5 Q5)); (with_reducible refine' MethodCall_ ?_ ?he9); (case he9 => exact rfl); (with_reducible refine' e_loc S ?hv9 ?_ ?hL9 ?hk9 ?hl9 ?hd9); (case hL9 => exact rfl); (case hk9 => exact rfl); (case hl9 => exact rfl); (case hd9 => decide); (case hv9 => exact rfl); (with_reducible refine gm_sp ?_); (with_reducible refine cm1 ?_ ?he9 ?hp9); (case he9 => exact rfl); (case hp9 => exact rfl); (with_reducible refine args_cons ?_ ?he9); (case he9 => exact rfl); (with_reducible refine l_sl ?_);  intro t s' k9; replace S := St.to S k9; skip; clear k9; (with_reducible refine args_nil ?_); (repeat ((with_reducible refine q5 _ _ ?_); clear q5 Q5)))
    refine c_sp (k := false) hts.2 (by omega) fun ra rvs s' k9 hn hv hl => ?_
    (repeat ((with_reducible refine q5 _ _ ?_); clear q5 Q5)); exact q8 _ _ ⟨Keeps.trans (St.ext S) k9, fun bad hb => ⟨tx9, htt, ra, rvs, rfl, fun hm => (by obtain ⟨_, o, e⟩ := hb _ hm; have := Keeps.up (St.ext S) _ _ e; rw [hn] at this; cases this), hl, PcL.ofTx hv⟩⟩
    
  intro D ys s₃ k9 hD hlD hlen hf
  replace S := S.to k9; replace hsl := KL k9 hsl; replace hta := KP k9 hta; replace hsg := KL k9 hsg; replace hoc := KL k9 hoc; clear k9 T
  have hrows2 : RowsL s₃.heap (splitRows (told r K)) ys := ⟨by rw [hlen, htvl]; unfold splitRows; rw [List.length_map], fun i y hy => by
    obtain ⟨t, ht, hr⟩ := hf i y hy
    (repeat ((with_reducible refine q5 _ _ ?_); clear q5 Q5)); exact ⟨_, by unfold splitRows; rw [List.getElem?_map, ht]; rfl, hr⟩⟩
  clear hf
  have hslen : (splitRows (told r K)).length = (told r K).length := by unfold splitRows; rw [List.length_map]
  
  ((repeat ((with_reducible refine q5 _ _ ?_); clear q5 Q5)); (with_reducible refine args_nil ?_); (with_reducible refine And.intro (Keeps.up (St.ext S)) ?_); (repeat ((with_reducible refine q5 _ _ ?_); clear q5 Q5)))
  refine c_left (R'.mono (by decide)) (St.bs S) (fun e => by rw [e] at hslen; unfold told at hslen; simp at hslen) (by omega) (fun row hr => Nat.le_trans (split_row_len (fun t ht => (htold t ht).1) row hr) (by decide)) hlD hrows2 fun f2 tt kl2 t2 ku2 s' hf2 k9 ht hkl2 hku2 => ?_
  replace S := S.to k9; replace hsl := KL k9 hsl; replace hta := KP k9 hta; replace hsg := KL k9 hsg; replace hoc := KL k9 hoc; clear k9 hlD hrows2
  
  have hmain2 := law_main (split_ok _) hf2
  rw [split_texts] at hmain2
  have hrt2 := root_ok (frontC ((splitRows (told r K)).getD f2 []))
  have hvis : ∀ p ∈ leftL (rootC (frontC ((splitRows (told r K)).getD f2 []))) ((splitRows (told r K)).drop f2).flatten, p.1 = false := fun p hp => split_vis hp
  have hsm2 := split_left (fun t ht => (htold t ht).1) (by omega) (rootC (frontC ((splitRows (told r K)).getD f2 []))) f2
  generalize rootC (frontC ((splitRows (told r K)).getD f2 [])) = r2 at *
  generalize leftL r2 ((splitRows (told r K)).drop f2).flatten = K2 at *
  rw [vis_map hvis] at hmain2
  have hk2t := hku2.toTx hvis
  have hjn2 := txt_jn hsm2.2 hsm2.1
  have hr2l : r2.length ≤ 2 := by rcases hrt2 with rfl | rfl | rfl <;> simp
  refine a_two S hF R'.hh ht (fun s' S2 d9 kk9 => ?_) rfl rfl rfl rfl
  clear S; have S := S2; clear S2; replace hsl := DL d9 hsl; replace hta := DP d9 hta; replace hsg := DL d9 hsg; replace hoc := DL d9 hoc; replace hkl2 := DL d9 hkl2; clear d9 kk9 ht hf2 hku2 hslen hvis
  
  ((repeat ((with_reducible refine q5 _ _ ?_); clear q5 Q5)); (repeat ((with_reducible refine q5 _ _ ?_); clear q5 Q5)); (with_reducible refine x_consG fun Q5 q5 => ?_); (with_reducible refine wpAny_Return_some ?_; refine BoolOp_and ?_); (with_reducible refine wpAny_Compare1 ?_ ?hm9); (case hm9 => exact rfl); (with_reducible refine' e_loc S ?hv9 ?_ ?hL9 ?hk9 ?hl9 ?hd9); (case hL9 => exact rfl); (case hk9 => exact rfl); (case hl9 => exact rfl); (case hd9 => decide); (case hv9 => exact rfl); (with_reducible refine' e_loc S ?hv9 ?_ ?hL9 ?hk9 ?hl9 ?hd9); (case hL9 => exact rfl); (case hk9 => exact rfl); (case hl9 => exact rfl); (case hd9 => decide); (case hv9 => exact rfl); (repeat ((with_reducible refine q5 _ _ ?_); clear q5 Q5)))
  refine u_eqL R'.eqU hsg hsl hsgt hsv ?_
  ((repeat ((with_reducible refine q5 _ _ ?_); clear q5 Q5)); (with_reducible refine wpAny_truthy_bool ?_; refine ite_t ?_; refine BoolOp_and ?_); (with_reducible refine wpAny_Compare1 ?_ ?hm9); (case hm9 => exact rfl); (with_reducible refine' e_loc S ?hv9 ?_ ?hL9 ?hk9 ?hl9 ?hd9); (case hL9 => exact rfl); (case hk9 => exact rfl); (case hl9 => exact rfl); (case hd9 => decide); (case hv9 => exact rfl); (with_reducible refine' e_loc S ?hv9 ?_ ?hL9 ?hk9 ?hl9 ?hd9); (case hL9 => exact rfl); (case hk9 => exact rfl); (case hl9 => exact rfl); (case hd9 => decide); (case hv9 => exact rfl); (repeat ((with_reducible refine q5 _ _ ?_); clear q5 Q5)))
  refine u_eqL R'.eqU hoc hsl hoct hsv ?_
  ((repeat ((with_reducible refine q5 _ _ ?_); clear q5 Q5)); (with_reducible refine wpAny_truthy_bool ?_; refine ite_t ?_; refine BoolOp_one ?_); (with_reducible refine wpAny_Compare1 ?_ ?hm9); (case hm9 => exact rfl); (with_reducible refine Call_ ?_ ?he9); (case he9 => exact rfl); (with_reducible refine' e_glob (St.bs S) ?e9 ?_ ?hg9 ?hk9 ?hx9 ?hd9); (case hg9 => exact rfl); (case hk9 => exact rfl); (case hx9 => exact rfl); (case hd9 => decide); (case e9 => k_is); (with_reducible refine cf S ?hf9 ?_ ?he9); (case he9 => exact rfl); (case hf9 => k_is); (with_reducible refine args_cons ?_ ?he9); (case he9 => exact rfl); (with_reducible refine Call_ ?_ ?he9); (case he9 => exact rfl); (with_reducible refine' e_glob (St.bs S) ?e9 ?_ ?hg9 ?hk9 ?hx9 ?hd9); (case hg9 => exact rfl); (case hk9 => exact rfl); (case hx9 => exact rfl); (case hd9 => decide); (case e9 => k_is); (repeat ((with_reducible refine q5 _ _ ?_); clear q5 Q5)))
  clear hsg hoc hsl
  
  
  (repeat ((with_reducible refine q5 _ _ ?_); clear q5 Q5))
  refine cf_star S (by k_is) ?_ rfl
  ((repeat ((with_reducible refine q5 _ _ ?_); clear q5 Q5)); (with_reducible refine' e_loc S ?hv9 ?_ ?hL9 ?hk9 ?hl9 ?hd9); (case hL9 => exact rfl); (case hk9 => exact rfl); (case hl9 => exact rfl); (case hd9 => decide); (case hv9 => exact rfl); (repeat ((with_reducible refine q5 _ _ ?_); clear q5 Q5)))
  have hKs : ∀ b ∈ K.map (·.2), b.length ≤ 12 ∧ Oct b := fun b hb => htold b (List.mem_cons_of_mem _ hb)
  have hrs := htold r List.mem_cons_self
  unfold told at htv
  cases htv with
  | cons htv =>
  refine ⟨_, _, rfl, St.ext S, hta.isList, by omega, fun s₂ k9 => ?_⟩
  replace S := S.to k9; replace hkl2 := KL k9 hkl2; clear k9 hta
  
  refine c_join (R'.mono (by decide)) (St.bs S) hrs.2 (fun b hb => (hKs b hb).2) (by omega) (fun b hb => Nat.le_trans (hKs b hb).1 (by decide)) (by rw [List.length_map]; omega) htv fun t s' k9 => ?_
  replace S := S.to k9; replace hkl2 := KL k9 hkl2; clear k9
  have hj2 : (joinL r (K.map (·.2))).length ≤ 900000 := by
    have := joinL_len (K.map (·.2)) r fun b hb => Nat.le_trans (hKs b hb).1 (by decide)
    rw [List.length_map] at this; omega
  ((repeat ((with_reducible refine q5 _ _ ?_); clear q5 Q5)); (with_reducible refine args_nil ?_); (with_reducible refine And.intro (Keeps.up (St.ext S)) ?_); (repeat ((with_reducible refine q5 _ _ ?_); clear q5 Q5)))
  refine c_normpath (R'.mono (by decide)) (St.bs S) (joinL_oct _ _ hrs.2 fun b hb => (hKs b hb).2) hj2 fun t s' k9 => ?_
  replace S := S.to k9; replace hkl2 := KL k9 hkl2; clear k9
  have hmain2 : npath (joinL r (K.map (·.2))) = orDot (r2 ++ jn47 (K2.map (·.2))) := hmain2
  rw [hmain2]
  ((repeat ((with_reducible refine q5 _ _ ?_); clear q5 Q5)); (with_reducible refine BoolOp_or ?_; refine wpAny_BinOp ?_); (with_reducible refine' e_loc S ?hv9 ?_ ?hL9 ?hk9 ?hl9 ?hd9); (case hL9 => exact rfl); (case hk9 => exact rfl); (case hl9 => exact rfl); (case hd9 => decide); (case hv9 => exact rfl); (with_reducible refine' MethodCall_ ?_ ?he9); (case he9 => exact rfl); (with_reducible refine l_sl ?_);  intro t s' k9; replace S := St.to S k9; replace hkl2 := KL k9 hkl2; clear k9; (with_reducible refine gm_jn ?_); (with_reducible refine cm1 ?_ ?he9 ?hp9); (case he9 => exact rfl); (case hp9 => exact rfl); (with_reducible refine args_cons ?_ ?he9); (case he9 => exact rfl); (with_reducible refine' e_loc S ?hv9 ?_ ?hL9 ?hk9 ?hl9 ?hd9); (case hL9 => exact rfl); (case hk9 => exact rfl); (case hl9 => exact rfl); (case hd9 => decide); (case hv9 => exact rfl); (with_reducible refine args_nil ?_); (repeat ((with_reducible refine q5 _ _ ?_); clear q5 Q5)))
  refine c_jn (k := false) hkl2 hk2t (by omega) fun t s' k9 => ?_
  replace S := S.to k9; clear k9 hkl2
  
  ((repeat ((with_reducible refine q5 _ _ ?_); clear q5 Q5)); (with_reducible refine add_tx ?hsz9 ?_); (case hsz9 => first | assumption | omega | (simp only [List.length_append, List.length_cons, List.length_nil]; omega)); intro t s' k9; replace S := St.to S k9; skip; clear k9; (with_reducible refine truthy_tx ?hsz9 ?_); (case hsz9 => first | assumption | omega | (simp only [List.length_append, List.length_cons, List.length_nil]; omega)); intro s' k9; replace S := St.to S k9; skip; clear k9; (repeat ((with_reducible refine q5 _ _ ?_); clear q5 Q5)))
  by_cases hp2 : r2 ++ jn47 (K2.map (·.2)) = []
  · have e2 : orDot (r2 ++ jn47 (K2.map (·.2))) = [46] := by unfold orDot; rw [if_pos hp2]
    rw [e2]
    refine ite_F (by rw [hp2]; rfl) ?_
    ((repeat ((with_reducible refine q5 _ _ ?_); clear q5 Q5)); (with_reducible refine BoolOp_one ?_); (with_reducible refine l_d ?_);  intro t s' k9; replace S := St.to S k9; skip; clear k9; (with_reducible refine eq_tx ?ho19 ?ho29 ?_); (case ho19 => first | assumption | exact Oct.nil | exact BF.oct47 | (intro c hc; simp at hc; omega)); (case ho29 => first | assumption | exact Oct.nil | exact BF.oct47 | (intro c hc; simp at hc; omega)); (repeat ((with_reducible refine q5 _ _ ?_); clear q5 Q5)))
    (repeat ((with_reducible refine q5 _ _ ?_); clear q5 Q5)); exact q9 _ _ ⟨rfl, St.ext S⟩
  · have e2 : orDot (r2 ++ jn47 (K2.map (·.2))) = r2 ++ jn47 (K2.map (·.2)) := by unfold orDot; rw [if_neg hp2]
    rw [e2]
    refine ite_T (by simpa using hp2) ?_
    refine eq_pc (bad := []) (p := (false, r2 ++ jn47 (K2.map (·.2)))) ⟨_, rfl⟩ R'.cl ?_
    rw [beq_self_eq_true]
    (repeat ((with_reducible refine q5 _ _ ?_); clear q5 Q5)); exact q9 _ _ ⟨rfl, St.ext S⟩
  
  
  
  
  
  
end Mine
end
set_option maxRecDepth 100000 in
set_option maxHeartbeats 8000000 in
theorem PySem.Challenge.cw_pd0010_01_holds : PySem.Challenge.rw_pd0010_01.Holds := by
  exact Mine.lawGoes
