import PyProof.Rows.All
import OpenK.KCell
import Wide.FinOn
import PySem.Challenge.RW_pd0155_01
open PySem PySem.W PySem.Calls PyProof.Rows
set_option Elab.async false
set_option maxRecDepth 100000
set_option maxHeartbeats 8000000
namespace Mine
/-! Frag -/
section
/-! the objects of the run top that the proof reads; a def's body is taken from the row by its place -/
noncomputable def fnAt (i : Nat) (m : String) (t : Tok) (c : Addr) : Obj := match (PySem.Challenge.pw_pd0155_01.main.body)[i]? with
  | some (.FunctionDef n ps b _ _ _ sc _ _ _) => { cls := .type "function", data := .func { name := n, qualname := n, params := ps, body := .stmts b, scope := sc, globals := 3, closure := [], defaults := .none, kwdefaults := .none, pyModule := .str (Str.ofString m) t, code := .ref c } }
  | _ => { cls := .none, data := .plain }
abbrev vs (x : String) (t : Tok) : Value := .str (Str.ofString x) t
abbrev vi (n : Int) (t : Tok) : Value := .int n t
abbrev vr (a : Addr) : Value := .ref a
abbrev ent (P : Params) (x : String) (t : Tok) (v : Value) : DictEntry := { hash := PyData.keyHash P (Str.ofString x), key := .str (Str.ofString x) t, val := v }
noncomputable def Kf (P : Params) : Frag := [
(3, { cls := Value.type "dict", data := Data.dict #[ent P "__name__" 165 (vs "law_pd0155_01" 503), ent P "__doc__" 166 (Value.none), ent P "__package__" 167 (Value.none), ent P "__loader__" 168 (Value.builtin "__main__.__loader__#opaque"), ent P "__spec__" 169 (Value.none), ent P "__annotations__" 170 (vr 6), ent P "__builtins__" 171 (vr 4), ent P "__file__" 173 (vs "/claim/cut.py" 172), ent P "__cached__" 174 (Value.none), ent P "_wall" 193 (vr 21), ent P "_plain_name" 204 (vr 28), ent P "ABCMeta" 230 (vr 45), ent P "_ABCLike" 273 (vr 78), ent P "_abc_plain_meta" 280 (vr 87), ent P "fspath" 292 (vr 94), ent P "_check_arg_types" 305 (vr 101), ent P "_get_sep" 314 (vr 108), ent P "join" 325 (vr 115), ent P "splitroot" 334 (vr 122), ent P "dirname" 344 (vr 129), ent P "normpath" 359 (vr 136), ent P "heappush" 369 (vr 143), ent P "heappop" 378 (vr 150), ent P "_siftdown" 390 (vr 157), ent P "_siftup" 403 (vr 164), ent P "S_IMODE" 412 (vr 171), ent P "S_IFMT" 419 (vr 178), ent P "S_IFDIR" 421 (vi 16384 420), ent P "S_IFCHR" 423 (vi 8192 422), ent P "S_IFBLK" 425 (vi 24576 424), ent P "S_IFREG" 427 (vi 32768 426), ent P "S_IFIFO" 429 (vi 4096 428), ent P "S_IFLNK" 431 (vi 40960 430), ent P "S_IFSOCK" 433 (vi 49152 432), ent P "S_ISLNK" 440 (vr 185), ent P "S_ISUID" 442 (vi 2048 441), ent P "S_ISGID" 444 (vi 1024 443), ent P "S_ISVTX" 446 (vi 512 445), ent P "S_IRUSR" 448 (vi 256 447), ent P "S_IWUSR" 450 (vi 128 449), ent P "S_IXUSR" 452 (vi 64 451), ent P "S_IRGRP" 454 (vi 32 453), ent P "S_IWGRP" 456 (vi 16 455), ent P "S_IXGRP" 458 (vi 8 457), ent P "S_IROTH" 460 (vi 4 459), ent P "S_IWOTH" 462 (vi 2 461), ent P "S_IXOTH" 464 (vi 1 463), ent P "_filemode_table" 490 (vr 218), ent P "filemode" 502 (vr 225), ent P "_law_numbers" 510 (vr 230), ent P "_law_texts" 519 (vr 237), ent P "_law_links" 532 (vr 244), ent P "_law_modes" 544 (vr 251), ent P "_law_gained" 550 (vr 256), ent P "_law_reached" 562 (vr 263), ent P "_law_signs" 571 (vr 270), ent P "law" 577 (vr 275)] 57 }),
(93, { cls := Value.type "code", data := Data.fields #[vs "fspath" 283, vs "fspath" 284, vs "/claim/cut.py" 285, vi 35 0, vi 1 0, vi 0 0, vi 0 0, vi 3 0, vr 88, Value.bool true, vi 181 0, vr 89, Value.none, vr 90, vr 91, vr 92, vi 290 0, vi 35 0, vs "/claim/cut.py" 291] }),
(94, fnAt 9 "os" 281 93),
(107, { cls := Value.type "code", data := Data.fields #[vs "_get_sep" 308, vs "_get_sep" 309, vs "/claim/cut.py" 310, vi 64 0, vi 1 0, vi 0 0, vi 0 0, vi 3 0, vr 102, Value.bool true, vi 181 0, vr 103, Value.none, vr 104, vr 105, vr 106, vi 312 0, vi 64 0, vs "/claim/cut.py" 313] }),
(108, fnAt 13 "cpy313.posixpath" 306 107),
(114, { cls := Value.type "code", data := Data.fields #[vs "join" 315, vs "join" 316, vs "/claim/cut.py" 317, vi 69 0, vi 1 0, vi 0 0, vi 0 0, vi 7 0, vr 109, Value.bool true, vi 181 0, vr 110, Value.none, vr 111, vr 112, vr 113, vi 323 0, vi 69 0, vs "/claim/cut.py" 324] }),
(115, fnAt 14 "cpy313.posixpath" 306 114),
(121, { cls := Value.type "code", data := Data.fields #[vs "splitroot" 326, vs "splitroot" 327, vs "/claim/cut.py" 328, vi 86 0, vi 1 0, vi 0 0, vi 0 0, vi 3 0, vr 116, Value.bool true, vi 181 0, vr 117, Value.none, vr 118, vr 119, vr 120, vi 332 0, vi 86 0, vs "/claim/cut.py" 333] }),
(122, fnAt 15 "cpy313.posixpath" 306 121),
(128, { cls := Value.type "code", data := Data.fields #[vs "dirname" 335, vs "dirname" 336, vs "/claim/cut.py" 337, vi 100 0, vi 1 0, vi 0 0, vi 0 0, vi 3 0, vr 123, Value.bool true, vi 181 0, vr 124, Value.none, vr 125, vr 126, vr 127, vi 342 0, vi 100 0, vs "/claim/cut.py" 343] }),
(129, fnAt 16 "cpy313.posixpath" 306 128),
(135, { cls := Value.type "code", data := Data.fields #[vs "normpath" 345, vs "normpath" 346, vs "/claim/cut.py" 347, vi 108 0, vi 1 0, vi 0 0, vi 0 0, vi 3 0, vr 130, Value.bool true, vi 181 0, vr 131, Value.none, vr 132, vr 133, vr 134, vi 357 0, vi 108 0, vs "/claim/cut.py" 358] }),
(136, fnAt 17 "cpy313.posixpath" 306 135),
(142, { cls := Value.type "code", data := Data.fields #[vs "heappush" 362, vs "heappush" 363, vs "/claim/cut.py" 364, vi 134 0, vi 2 0, vi 0 0, vi 0 0, vi 3 0, vr 137, Value.bool true, vi 181 0, vr 138, Value.none, vr 139, vr 140, vr 141, vi 367 0, vi 134 0, vs "/claim/cut.py" 368] }),
(143, fnAt 19 "cpy313.heapq" 360 142),
(149, { cls := Value.type "code", data := Data.fields #[vs "heappop" 370, vs "heappop" 371, vs "/claim/cut.py" 372, vi 137 0, vi 1 0, vi 0 0, vi 0 0, vi 3 0, vr 144, Value.bool true, vi 181 0, vr 145, Value.none, vr 146, vr 147, vr 148, vi 376 0, vi 137 0, vs "/claim/cut.py" 377] }),
(150, fnAt 20 "cpy313.heapq" 360 149),
(156, { cls := Value.type "code", data := Data.fields #[vs "_siftdown" 379, vs "_siftdown" 380, vs "/claim/cut.py" 381, vi 145 0, vi 3 0, vi 0 0, vi 0 0, vi 3 0, vr 151, Value.bool true, vi 181 0, vr 152, Value.none, vr 153, vr 154, vr 155, vi 388 0, vi 145 0, vs "/claim/cut.py" 389] }),
(157, fnAt 21 "cpy313.heapq" 360 156),
(163, { cls := Value.type "code", data := Data.fields #[vs "_siftup" 391, vs "_siftup" 392, vs "/claim/cut.py" 393, vi 156 0, vi 2 0, vi 0 0, vi 0 0, vi 3 0, vr 158, Value.bool true, vi 181 0, vr 159, Value.none, vr 160, vr 161, vr 162, vi 401 0, vi 156 0, vs "/claim/cut.py" 402] }),
(164, fnAt 22 "cpy313.heapq" 360 163),
(170, { cls := Value.type "code", data := Data.fields #[vs "S_IMODE" 406, vs "S_IMODE" 407, vs "/claim/cut.py" 408, vi 171 0, vi 1 0, vi 0 0, vi 0 0, vi 3 0, vr 165, Value.bool true, vi 181 0, vr 166, Value.none, vr 167, vr 168, vr 169, vi 410 0, vi 171 0, vs "/claim/cut.py" 411] }),
(171, fnAt 24 "cpy313.stat" 404 170),
(177, { cls := Value.type "code", data := Data.fields #[vs "S_IFMT" 413, vs "S_IFMT" 414, vs "/claim/cut.py" 415, vi 173 0, vi 1 0, vi 0 0, vi 0 0, vi 3 0, vr 172, Value.bool true, vi 181 0, vr 173, Value.none, vr 174, vr 175, vr 176, vi 417 0, vi 173 0, vs "/claim/cut.py" 418] }),
(178, fnAt 25 "cpy313.stat" 404 177),
(184, { cls := Value.type "code", data := Data.fields #[vs "S_ISLNK" 434, vs "S_ISLNK" 435, vs "/claim/cut.py" 436, vi 182 0, vi 1 0, vi 0 0, vi 0 0, vi 3 0, vr 179, Value.bool true, vi 181 0, vr 180, Value.none, vr 181, vr 182, vr 183, vi 438 0, vi 182 0, vs "/claim/cut.py" 439] }),
(185, fnAt 33 "cpy313.stat" 404 184),
(186, { cls := Value.type "tuple", data := Data.seq #[vi 40960 430, vs "l" 465] }),
(187, { cls := Value.type "tuple", data := Data.seq #[vi 49152 432, vs "s" 466] }),
(188, { cls := Value.type "tuple", data := Data.seq #[vi 32768 426, vs "-" 467] }),
(189, { cls := Value.type "tuple", data := Data.seq #[vi 24576 424, vs "b" 468] }),
(190, { cls := Value.type "tuple", data := Data.seq #[vi 16384 420, vs "d" 469] }),
(191, { cls := Value.type "tuple", data := Data.seq #[vi 8192 422, vs "c" 470] }),
(192, { cls := Value.type "tuple", data := Data.seq #[vi 4096 428, vs "p" 471] }),
(193, { cls := Value.type "tuple", data := Data.seq #[vr 186, vr 187, vr 188, vr 189, vr 190, vr 191, vr 192] }),
(194, { cls := Value.type "tuple", data := Data.seq #[vi 256 447, vs "r" 472] }),
(195, { cls := Value.type "tuple", data := Data.seq #[vr 194] }),
(196, { cls := Value.type "tuple", data := Data.seq #[vi 128 449, vs "w" 473] }),
(197, { cls := Value.type "tuple", data := Data.seq #[vr 196] }),
(198, { cls := Value.type "tuple", data := Data.seq #[vi 2112 474, vs "s" 475] }),
(199, { cls := Value.type "tuple", data := Data.seq #[vi 2048 441, vs "S" 476] }),
(200, { cls := Value.type "tuple", data := Data.seq #[vi 64 451, vs "x" 477] }),
(201, { cls := Value.type "tuple", data := Data.seq #[vr 198, vr 199, vr 200] }),
(202, { cls := Value.type "tuple", data := Data.seq #[vi 32 453, vs "r" 478] }),
(203, { cls := Value.type "tuple", data := Data.seq #[vr 202] }),
(204, { cls := Value.type "tuple", data := Data.seq #[vi 16 455, vs "w" 479] }),
(205, { cls := Value.type "tuple", data := Data.seq #[vr 204] }),
(206, { cls := Value.type "tuple", data := Data.seq #[vi 1032 480, vs "s" 481] }),
(207, { cls := Value.type "tuple", data := Data.seq #[vi 1024 443, vs "S" 482] }),
(208, { cls := Value.type "tuple", data := Data.seq #[vi 8 457, vs "x" 483] }),
(209, { cls := Value.type "tuple", data := Data.seq #[vr 206, vr 207, vr 208] }),
(210, { cls := Value.type "tuple", data := Data.seq #[vi 4 459, vs "r" 484] }),
(211, { cls := Value.type "tuple", data := Data.seq #[vr 210] }),
(212, { cls := Value.type "tuple", data := Data.seq #[vi 2 461, vs "w" 485] }),
(213, { cls := Value.type "tuple", data := Data.seq #[vr 212] }),
(214, { cls := Value.type "tuple", data := Data.seq #[vi 513 486, vs "t" 487] }),
(215, { cls := Value.type "tuple", data := Data.seq #[vi 512 445, vs "T" 488] }),
(216, { cls := Value.type "tuple", data := Data.seq #[vi 1 463, vs "x" 489] }),
(217, { cls := Value.type "tuple", data := Data.seq #[vr 214, vr 215, vr 216] }),
(218, { cls := Value.type "tuple", data := Data.seq #[vr 193, vr 195, vr 197, vr 201, vr 203, vr 205, vr 209, vr 211, vr 213, vr 217] }),
(224, { cls := Value.type "code", data := Data.fields #[vs "filemode" 491, vs "filemode" 492, vs "/claim/cut.py" 493, vi 197 0, vi 1 0, vi 0 0, vi 0 0, vi 3 0, vr 219, Value.bool true, vi 181 0, vr 220, Value.none, vr 221, vr 222, vr 223, vi 500 0, vi 197 0, vs "/claim/cut.py" 501] }),
(225, fnAt 47 "cpy313.stat" 404 224),
(229, { cls := Value.type "code", data := Data.fields #[vs "_law_numbers" 505, vs "_law_numbers" 506, vs "/claim/cut.py" 507, vi 215 0, vi 1 0, vi 0 0, vi 0 0, vi 3 0, vr 226, Value.bool true, vi 181 0, vr 227, Value.none, Value.none, Value.none, vr 228, vi 508 0, vi 215 0, vs "/claim/cut.py" 509] }),
(230, fnAt 49 "law_pd0155_01" 503 229),
(236, { cls := Value.type "code", data := Data.fields #[vs "_law_texts" 511, vs "_law_texts" 512, vs "/claim/cut.py" 513, vi 218 0, vi 1 0, vi 0 0, vi 0 0, vi 3 0, vr 231, Value.bool true, vi 181 0, vr 232, Value.none, vr 233, vr 234, vr 235, vi 517 0, vi 218 0, vs "/claim/cut.py" 518] }),
(237, fnAt 50 "law_pd0155_01" 503 236),
(243, { cls := Value.type "code", data := Data.fields #[vs "_law_links" 520, vs "_law_links" 521, vs "/claim/cut.py" 522, vi 223 0, vi 2 0, vi 0 0, vi 0 0, vi 3 0, vr 238, Value.bool true, vi 181 0, vr 239, Value.none, vr 240, vr 241, vr 242, vi 530 0, vi 223 0, vs "/claim/cut.py" 531] }),
(244, fnAt 51 "law_pd0155_01" 503 243),
(250, { cls := Value.type "code", data := Data.fields #[vs "_law_modes" 533, vs "_law_modes" 534, vs "/claim/cut.py" 535, vi 231 0, vi 3 0, vi 0 0, vi 0 0, vi 3 0, vr 245, Value.bool true, vi 181 0, vr 246, Value.none, vr 247, vr 248, vr 249, vi 542 0, vi 231 0, vs "/claim/cut.py" 543] }),
(251, fnAt 52 "law_pd0155_01" 503 250),
(255, { cls := Value.type "code", data := Data.fields #[vs "_law_gained" 545, vs "_law_gained" 546, vs "/claim/cut.py" 547, vi 238 0, vi 2 0, vi 0 0, vi 0 0, vi 3 0, vr 252, Value.bool true, vi 181 0, vr 253, Value.none, Value.none, Value.none, vr 254, vi 548 0, vi 238 0, vs "/claim/cut.py" 549] }),
(256, fnAt 53 "law_pd0155_01" 503 255),
(262, { cls := Value.type "code", data := Data.fields #[vs "_law_reached" 551, vs "_law_reached" 552, vs "/claim/cut.py" 553, vi 255 0, vi 2 0, vi 0 0, vi 0 0, vi 3 0, vr 257, Value.bool true, vi 181 0, vr 258, Value.none, vr 259, vr 260, vr 261, vi 560 0, vi 255 0, vs "/claim/cut.py" 561] }),
(263, fnAt 54 "law_pd0155_01" 503 262),
(269, { cls := Value.type "code", data := Data.fields #[vs "_law_signs" 563, vs "_law_signs" 564, vs "/claim/cut.py" 565, vi 261 0, vi 1 0, vi 0 0, vi 0 0, vi 3 0, vr 264, Value.bool true, vi 181 0, vr 265, Value.none, vr 266, vr 267, vr 268, vi 569 0, vi 261 0, vs "/claim/cut.py" 570] }),
(270, fnAt 55 "law_pd0155_01" 503 269),
(274, { cls := Value.type "code", data := Data.fields #[vs "law" 572, vs "law" 573, vs "/claim/cut.py" 574, vi 268 0, vi 1 0, vi 0 0, vi 0 0, vi 3 0, vr 271, Value.bool true, vi 181 0, vr 272, Value.none, Value.none, Value.none, vr 273, vi 575 0, vi 268 0, vs "/claim/cut.py" 576] }),
(275, fnAt 56 "law_pd0155_01" 503 274)]
def Ka : List Addr := [3, 93, 94, 107, 108, 114, 115, 121, 122, 128, 129, 135, 136, 142, 143, 149, 150, 156, 157, 163, 164, 170, 171, 177, 178, 184, 185, 186, 187, 188, 189, 190, 191, 192, 193, 194, 195, 196, 197, 198, 199, 200, 201, 202, 203, 204, 205, 206, 207, 208, 209, 210, 211, 212, 213, 214, 215, 216, 217, 218, 224, 225, 229, 230, 236, 237, 243, 244, 250, 251, 255, 256, 262, 263, 269, 270, 274, 275]
noncomputable abbrev KK (w : World) : Frag := Kf w.params
end
/-! Base -/
section

/-- what the walk knows of the top -/
structure Ok (w : World) (mg mb : Str → Option Value) (h : Heap) : Prop where
  X : (KK w).In h
  g : h.Ns mainGlobals mg
  b : h.Ns builtinsNs mb
  nolimit : h.NoLimit
  bi : ∀ x : Str, x ≠ "__name__" → mb x = bootBuiltins x

abbrev Sub (h h' : Heap) : Prop := ∀ b o, h.get? b = some o → h'.get? b = some o
theorem Sub.refl (h : Heap) : Sub h h := fun _ _ e => e
theorem Sub.trans {a b c : Heap} (x : Sub a b) (y : Sub b c) : Sub a c := fun d o e => y d o (x d o e)
theorem Ok.keeps {w : World} {mg mb : Str → Option Value} {g g' : Heap} (O : Ok w mg mb g) (hk : Sub g g') : Ok w mg mb g' :=
  ⟨O.X.keeps hk, O.g.keeps hk, O.b.keeps hk, O.nolimit.keeps hk, O.bi⟩

/-- all but W is kept -/
def Keeps (W : List Addr) (h h' : Heap) : Prop := ∀ b o, b ∉ W → h.get? b = some o → h'.get? b = some o
theorem Keeps.refl {W : List Addr} (h : Heap) : Keeps W h h := fun _ _ _ e => e
theorem Keeps.trans {W : List Addr} {a b c : Heap} (x : Keeps W a b) (y : Keeps W b c) : Keeps W a c := fun d o n e => y d o n (x d o n e)
theorem Keeps.mono {W W' : List Addr} {a b : Heap} (x : Keeps W a b) (h : ∀ q ∈ W, q ∈ W') : Keeps W' a b := fun d o n e => x d o (fun q => n (h d q)) e
theorem Keeps.sub {a b : Heap} (x : Keeps [] a b) : Sub a b := fun d o e => x d o (fun h => nomatch h) e
theorem Sub.toKeeps {W : List Addr} {a b : Heap} (x : Sub a b) : Keeps W a b := fun d o _ e => x d o e

/-- locals written over what is unknown -/
def ov (ps : List (Str × Value)) (u : Str → Option Value) : Str → Option Value := fun y => match ps.lookup y with
  | some v => some v
  | none => u y
theorem ov_at {ps : List (Str × Value)} {u : Str → Option Value} {x : Str} {v : Value} (h : ps.lookup x = some v) : ov ps u x = some v := by
  unfold ov; rw [h]
theorem ov_set {ps : List (Str × Value)} {u : Str → Option Value} {x : Str} {v : Value} : (fun y => if y = x then some v else ov ps u y) = ov ((x, v) :: ps) u := by
  funext y
  unfold ov
  rw [List.lookup_cons]
  by_cases h : y = x
  · subst h; simp
  · rw [if_neg h]
    have : (y == x) = false := by simpa using h
    rw [this]
/-- the locals told anew: some of them, over the rest -/
theorem ov_sel {ps qs : List (Str × Value)} {u : Str → Option Value} (h : ∀ p ∈ qs, ov ps u p.1 = some p.2) : ov ps u = ov qs (ov ps u) := by
  funext y
  show ov ps u y = match qs.lookup y with | some v => some v | none => ov ps u y
  cases e : qs.lookup y with
  | none => rfl
  | some v =>
    have : (y, v) ∈ qs := by
      clear h
      induction qs with
      | nil => cases e
      | cons q r ih =>
        obtain ⟨a, b⟩ := q
        rw [List.lookup_cons] at e
        cases hab : (y == a) with
        | true => rw [hab] at e; cases e; rw [eq_of_beq hab]; exact .head _
        | false => rw [hab] at e; exact .tail _ (ih e)
    exact h _ this

/-- a frame: its locals, and a heap that stays as it is -/
structure Fm (g : Heap) (L : Addr) (h : Heap) (m : Str → Option Value) : Prop where
  ns : h.Ns L m
  keep : Sub g h
  off : g.get? L = none
theorem Fm.sel {g h : Heap} {L : Addr} {ps : List (Str × Value)} {u : Str → Option Value} (F : Fm g L h (ov ps u)) (qs : List (Str × Value)) (hq : qs.map (fun p => ps.lookup p.1) = qs.map (fun p => some p.2)) : ∃ u', Fm g L h (ov qs u') :=
  ⟨ov ps u, ov_sel (fun p hp => ov_at (List.map_inj_left.mp hq p hp)) ▸ F⟩
theorem Fm.to {g g' h h' : Heap} {L : Addr} {m : Str → Option Value} (F : Fm g L h m) (k : ∀ o, h.get? L = some o → h'.get? L = some o) (hs : Sub g' h') (ho : g'.get? L = none) : Fm g' L h' m := by
  obtain ⟨oL, es, ep, e, r⟩ := F.ns
  exact ⟨⟨oL, es, ep, k _ e, r⟩, hs, ho⟩

/-- what stands at an address -/
def Has (h : Heap) (a : Addr) (P : Obj → Prop) : Prop := ∃ o, h.get? a = some o ∧ P o
theorem Has.to {h h' : Heap} {a : Addr} {P : Obj → Prop} (x : Has h a P) (k : ∀ o, h.get? a = some o → h'.get? a = some o) : Has h' a P := let ⟨o, e, p⟩ := x; ⟨o, k _ e, p⟩
abbrev Lg := List (Addr × (Obj → Prop))
/-- the things that this call has made or may turn -/
structure Led (g : Heap) (L : Addr) (h : Heap) (led : Lg) : Prop where
  has : ∀ p ∈ led, p.1 ≠ L ∧ g.get? p.1 = none ∧ Has h p.1 p.2
  nd : (led.map (·.1)).Nodup
theorem Led.nil {g h : Heap} {L : Addr} : Led g L h [] := ⟨fun _ h => (nomatch h), .nil⟩
theorem Led.get {g h : Heap} {L : Addr} {led : Lg} (N : Led g L h led) (i : Nat) {a : Addr} {P : Obj → Prop} (hi : led[i]? = some (a, P)) : Has h a P := (N.has _ (List.mem_of_getElem? hi)).2.2
theorem Led.ne {g h : Heap} {L : Addr} {led : Lg} (N : Led g L h led) (i : Nat) {a : Addr} {P : Obj → Prop} (hi : led[i]? = some (a, P)) : a ≠ L := (N.has _ (List.mem_of_getElem? hi)).1
theorem Led.off {g h : Heap} {L : Addr} {led : Lg} (N : Led g L h led) (i : Nat) {a : Addr} {P : Obj → Prop} (hi : led[i]? = some (a, P)) : g.get? a = none := (N.has _ (List.mem_of_getElem? hi)).2.1
theorem Led.to {g h h' : Heap} {L : Addr} {led : Lg} (N : Led g L h led) (k : ∀ b o, b ≠ L → h.get? b = some o → h'.get? b = some o) : Led g L h' led :=
  ⟨fun p hp => ⟨(N.has p hp).1, (N.has p hp).2.1, (N.has p hp).2.2.to fun o e => k _ o (N.has p hp).1 e⟩, N.nd⟩
/-- one thing turned -/
theorem Led.upd {g h h' : Heap} {L : Addr} {led : Lg} (N : Led g L h led) (i : Nat) {a : Addr} {P P' : Obj → Prop} (hi : led[i]? = some (a, P)) (k : Keeps [a] h h') (hP : Has h' a P') : Led g L h' (led.set i (a, P')) := by
  have hm : (led.set i (a, P')).map (·.1) = led.map (·.1) := by
    rw [List.map_set]
    refine List.ext_getElem? fun j => ?_
    rw [List.getElem?_set]
    split
    · rename_i e
      subst e
      split
      · rw [List.getElem?_map, hi]; rfl
      · rename_i hlt
        rw [List.getElem?_eq_none (by simpa using hlt)]
    · rfl
  refine ⟨fun p hp => ?_, hm ▸ N.nd⟩
  obtain ⟨j, hj⟩ := List.mem_iff_getElem?.mp hp
  rw [List.getElem?_set] at hj
  split at hj
  · split at hj
    · cases hj; exact ⟨N.ne i hi, N.off i hi, hP⟩
    · cases hj
  · rename_i hij
    have hp' := N.has p (List.mem_of_getElem? hj)
    refine ⟨hp'.1, hp'.2.1, hp'.2.2.to fun o e => k _ _ (fun q => hij ?_) e⟩
    have q' : p.1 = a := by simpa using q
    have h1 : (led.map (·.1))[i]? = some a := by rw [List.getElem?_map, hi]; rfl
    have h2 : (led.map (·.1))[j]? = some a := by rw [List.getElem?_map, hj]; exact congrArg some q'
    exact (List.getElem?_inj (by simpa using (List.getElem?_eq_some_iff.mp h1).1) N.nd).mp (h1.trans h2.symm)
theorem Fm.upd {g h h' : Heap} {L a : Addr} {m : Str → Option Value} (F : Fm g L h m) (hL : a ≠ L) (hg : g.get? a = none) (k : Keeps [a] h h') : Fm g L h' m :=
  F.to (fun o e => k _ o (by simpa using Ne.symm hL) e) (fun b o e => k b o (by intro q; rw [List.mem_singleton.mp q, hg] at e; cases e) (F.keep b o e)) F.off
theorem keeps_same {a : Addr} {h h' : Heap} (k : Heap.SameBut a h h') : Keeps [a] h h' := fun b o n e => (k.2 b (by simpa using n)).trans e
theorem sub_push (h : Heap) (o : Obj) : Sub h (h.push o) := fun _ _ e => Heap.get?_push_of_some o e
theorem get_none {g h : Heap} (k : Sub g h) : g.get? h.objs.size = none := by
  cases q : g.get? h.objs.size with
  | none => rfl
  | some o => exact absurd (Heap.lt_size (k _ _ q)) (Nat.lt_irrefl _)
theorem Fm.sub {g h h' : Heap} {L : Addr} {m : Str → Option Value} (F : Fm g L h m) (k : Sub h h') : Fm g L h' m := F.to (fun o e => k _ o e) (F.keep.trans k) F.off
theorem Led.sub {g h h' : Heap} {L : Addr} {led : Lg} (N : Led g L h led) (k : Sub h h') : Led g L h' led := N.to fun b o _ e => k b o e
theorem Fm.lt {g h : Heap} {L : Addr} {m : Str → Option Value} (F : Fm g L h m) : L < h.objs.size := by obtain ⟨_, _, _, e, _⟩ := F.ns; exact Heap.lt_size e
/-- a new thing -/
theorem Led.new {g h : Heap} {L : Addr} {m : Str → Option Value} {led : Lg} (F : Fm g L h m) (N : Led g L h led) (o : Obj) (P : Obj → Prop) (hP : P o) (hf : o.isFreed = false) : Led g L (h.push o) ((h.objs.size, P) :: led) := by
  have N' := N.sub (sub_push h o)
  refine ⟨fun p hp => ?_, ?_⟩
  · rcases List.mem_cons.mp hp with rfl | hp
    · exact ⟨Nat.ne_of_gt F.lt, get_none F.keep, o, Heap.get?_push_size _ hf, hP⟩
    · exact N'.has p hp
  · rw [List.map_cons, List.nodup_cons]
    refine ⟨fun q => ?_, N.nd⟩
    obtain ⟨p, hp, e⟩ := List.mem_map.mp q
    obtain ⟨o', ho', _⟩ := (N.has p hp).2.2
    exact absurd (Heap.lt_size ho') (by rw [e]; exact Nat.lt_irrefl _)

section
variable {prog : Program} {w : World} {A : Around} {E : Value → Shared → Prop} {s : Shared} {name : Str} {scope : Scope} {L a : Addr} {cd : Value} {g hT : Heap} {m mg mb : Str → Option Value} {ps : List (Str × Value)} {u : Str → Option Value} {led : Lg}

theorem ldo {env : Env} {x : Str} {pos : Pos} {v : Value} {Q : Value → Shared → Prop} (F : Fm g L s.heap (ov ps u)) (hv : ps.lookup x = some v) (h : Q v s)
    (hk : env.scope.kind = .function := by rfl) (hl : env.kindOf x = some .local := by rfl) (hd : (x == ("__debug__" : Str)) = false := by decide) (hL : env.locals = L := by rfl) :
    wpAny (model prog w) A (eval (.Name x pos) env) Q E s := wpAny_Name (wpAny_loadName_local hk hl (hL ▸ F.ns) (ov_at hv) h) hd
theorem ldno {env : Env} {x : Str} {v : Value} {Q : Value → Shared → Prop} (F : Fm g L s.heap (ov ps u)) (hv : ps.lookup x = some v) (h : Q v s)
    (hk : env.scope.kind = .function := by rfl) (hl : env.kindOf x = some .local := by rfl) (hL : env.locals = L := by rfl) :
    wpAny (model prog w) A (loadName env x) Q E s := wpAny_loadName_local hk hl (hL ▸ F.ns) (ov_at hv) h
theorem sto {env : Env} {x : Str} {v : Value} {Q : Unit → Shared → Prop} (F : Fm g L s.heap (ov ps u)) (N : Led g L s.heap led)
    (h : ∀ h' tk, Fm g L h' (ov ((x, v) :: ps) u) → Led g L h' led → Q () { s with heap := h', toks := tk })
    (hk : env.scope.kind = .function := by rfl) (hl : env.kindOf x = some .local := by rfl) (hL : env.locals = L := by rfl) :
    wpAny (model prog w) A (storeName env x v) Q E s := by
  subst hL
  exact wpAny_storeName_local hl F.ns (fun h' hn hs => h h' _ ⟨ov_set ▸ hn, fun b o e => (hs.2 b (fun (q : b = env.locals) => by rw [q, F.off] at e; cases e)).trans (F.keep b o e), F.off⟩ (N.to fun b o n e => (hs.2 b n).trans e))
    (by rw [hk]; rfl)
/-- a global -/
theorem glo {env : Env} {x : Str} {pos : Pos} {v : Value} {Q : Value → Shared → Prop} (O : Ok w mg mb g) (F : Fm g L s.heap m) (hv : nsIn (KK w) mainGlobals x = some (some v)) (h : Q v s)
    (hk : env.scope.kind = .function := by rfl) (hx : env.kindOf x = some .globalImplicit := by rfl) (hd : (x == ("__debug__" : Str)) = false := by decide) (hg : env.globals = mainGlobals := by rfl) :
    wpAny (model prog w) A (eval (.Name x pos) env) Q E s :=
  Calls.Name_function_global hk hx (Calls.loadGlobal_global (env := env) (hg ▸ O.g.keeps F.keep) (mg_of O.X O.g hv) h) hd
/-- a built-in name -/
theorem blt {env : Env} {x : Str} {pos : Pos} {v : Value} {Q : Value → Shared → Prop} (O : Ok w mg mb g) (F : Fm g L s.heap m) (hv : nsIn (KK w) mainGlobals x = some none) (hb : bootBuiltins x = some v) (h : Q v s) (hn : x ≠ "__name__" := by decide)
    (hk : env.scope.kind = .function := by rfl) (hx : env.kindOf x = some .globalImplicit := by rfl) (hd : (x == ("__debug__" : Str)) = false := by decide) (hg : env.globals = mainGlobals := by rfl) (hbn : env.builtins = builtinsNs := by rfl) :
    wpAny (model prog w) A (eval (.Name x pos) env) Q E s :=
  Calls.Name_function_global hk hx (Calls.loadGlobal_builtin (env := env) (hg ▸ O.g.keeps F.keep) (mg_none_of O.X O.g hv) (hbn ▸ O.b.keeps F.keep) ((O.bi x hn).trans hb) h) hd
def isCell (v : Option Value) (o : Obj) : Prop := o.data = .cell v
/-- a captured name, in its own frame or in an inner one -/
theorem ldc {env : Env} {x : Str} {c : Addr} {pos : Pos} {v : Value} {Q : Value → Shared → Prop} (hc : env.cells.lookup x = some c) (K : Has s.heap c (isCell (some v))) (h : Q v s)
    (hk : env.scope.kind = .function := by rfl) (hl : env.kindOf x = some .cell := by rfl) (hd : (x == ("__debug__" : Str)) = false := by decide) :
    wpAny (model prog w) A (eval (.Name x pos) env) Q E s := wpAny_Name (wpAny_loadName_cell hk hl hc K h) hd
theorem stoc {env : Env} {x : Str} {c : Addr} {v₀ : Option Value} {v : Value} {Q : Unit → Shared → Prop} (hc : env.cells.lookup x = some c) (K : Has s.heap c (isCell v₀))
    (h : ∀ h', Has h' c (isCell (some v)) → Keeps [c] s.heap h' → Q () { s with heap := h' })
    (hk : env.scope.kind = .function := by rfl) (hl : env.kindOf x = some .cell := by rfl) :
    wpAny (model prog w) A (storeName env x v) Q E s := wpAny_storeName_cell hk hl hc K fun h' hv hs => h h' hv fun b o n e => (hs.2 b (by simpa using n)).trans e
end

/-- the heap with some addresses hidden keeps what is not among them -/
theorem hide_sub {h : Heap} {W : List Addr} : Sub (hideAll h W) h := fun _ _ e => of_hideAll W e
theorem sub_hide {hT h : Heap} {W : List Addr} (k : Sub hT h) (hW : ∀ a ∈ W, hT.get? a = none) : Sub hT (hideAll h W) := fun b o e =>
  hideAll_get W (k b o e) fun q => by rw [hW b q] at e; cases e

/-- the call of a def of the text: the frozen heap is all but W -/
theorem enter {prog : Program} {w : World} {A : Around} {E : Value → Shared → Prop} {s : Shared} {hT : Heap} {mg mb : Str → Option Value} {fa : Addr} {fname qual : Str} {params : Arguments} {body : List Stmt} {scope : Scope} {dV kV doc pm cdv ct oc : Value} {an od : Option Addr} {osl : Array (Option Value)}
    {args : List Value} {Q : Value → Shared → Prop} (binds : List (Str × Value)) (W : List Addr) (led : Lg) (O : Ok w mg mb hT) (kT : Sub hT s.heap) (hW : ∀ a ∈ W, hT.get? a = none)
    (ho : (KK w).lookup fa = some ⟨oc, od, .func (fnOf fname qual params body scope dV kV doc pm an cdv ct), osl⟩) (hcd : codeIn (KK w) cdv qual = true) (hroom : A.depth < recursionLimit)
    (hled : ∀ p ∈ led, Has s.heap p.1 p.2 ∧ p.1 ∈ W) (hnd : (led.map (·.1)).Nodup)
    (hbind : bindArgs (fnOf fname qual params body scope dV kV doc pm an cdv ct) ⟨args, []⟩ = pure binds) (hloc : ∀ x ∈ binds, scope.names.lookup x.1 = some .local)
    (h : ∀ L h₁ tk, Ok w mg mb (hideAll s.heap W) → Fm (hideAll s.heap W) L h₁ (ov binds.reverse fun _ => none) → Led (hideAll s.heap W) L h₁ led → 
      wpAny (model prog w) (A.deeper (envOf qual scope L fa cdv)) (execs body (envOf qual scope L fa cdv)) (fun fl s' => Q (match fl with | .ret v => v | _ => .none) s') (fun _ _ => False) { s with heap := h₁, toks := tk })
    (hco : scope.isCoroutine = false := by rfl) (hgen : scope.isGenerator = false := by rfl) (hk : scope.kind = .function := by rfl) (hcell : ∀ x ∈ scope.names, x.2 ≠ .cell := by decide) :
    wpAny (model prog w) A (call (.ref fa) args) Q E s := by
  have OS := O.keeps kT
  refine wpAny_call ?_
  refine codeAny_call_def (fd := fnOf fname qual params body scope dV kV doc pm an cdv ct) (body := body) (binds := binds) hroom (OS.X _ _ ho) rfl OS.nolimit (codeRec_of OS.X hcd) rfl (BindsTo.of_eq hbind) hcell hloc (fun h₁ hns hk₁ => ?_) hco hgen hk
  have em : (fun x => binds.reverse.lookup x) = ov binds.reverse fun _ => none := by
    funext y; unfold ov; cases binds.reverse.lookup y <;> rfl
  rw [em] at hns
  refine wpAny_mono (h s.heap.objs.size h₁ _ (O.keeps (sub_hide kT hW)) ⟨hns, fun b o e => hk₁ b o (of_hideAll _ e), get_none hide_sub⟩
    ⟨fun p hp => ⟨by obtain ⟨o, e, _⟩ := (hled p hp).1; exact Nat.ne_of_lt (Heap.lt_size e), hideAll_none _ (hled p hp).2, (hled p hp).1.to fun o e => hk₁ _ o e⟩, hnd⟩) (fun fl s' q => q) fun _ _ x => x.elim

/-- what a call's end hands on -/
theorem keeps_of {h h' : Heap} {W : List Addr} {L : Addr} {m : Str → Option Value} (F : Fm (hideAll h W) L h' m) : Keeps W h h' := fun b o n e => F.keep b o (hideAll_get W e n)
/-- a frame behind a call that turned W -/
theorem Fm.after {g h h' : Heap} {W : List Addr} {L : Addr} {m : Str → Option Value} (F : Fm g L h m) (k : Keeps W h h') (hg : ∀ a ∈ W, g.get? a = none) (hL : L ∉ W) : Fm g L h' m :=
  F.to (fun o e => k L o hL e) (fun b o e => k b o (fun q => by rw [hg b q] at e; cases e) (F.keep b o e)) F.off
theorem Led.after {g h h' : Heap} {W : List Addr} {L : Addr} {led : Lg} (N : Led g L h led) (k : Keeps W h h') (hn : ∀ p ∈ led, p.1 ∉ W) : Led g L h' led :=
  ⟨fun p hp => ⟨(N.has p hp).1, (N.has p hp).2.1, (N.has p hp).2.2.to fun o e => k _ o (hn p hp) e⟩, N.nd⟩

section
variable {prog : Program} {w : World} {A : Around} {E : Value → Shared → Prop} {s : Shared} {env : Env} {Q : Flow → Shared → Prop}
theorem while_ {test : Expr} {body : List Stmt} {pos : Pos} (I : Nat → Shared → Prop) (n : Nat) (h : I n s)
    (turn : ∀ n s', I n s' → wpAny (model prog w) A (isTrue test env (eval test env)) (fun b s₂ => if b = true then wpAny (model prog w) A (execs body env) (fun f s₃ => match f with
      | .next | .cont => ∃ m, m < n ∧ I m s₃
      | .brk => Q .next s₃
      | .ret v => Q (.ret v) s₃) (fun _ _ => False) s₂ else Q .next s₂) (fun _ _ => False) s') :
    wpAny (model prog w) A (exec (.While test body [] pos) env) Q E s := by
  refine wpAny_While (codeAny_whileLoop I ?_ n h)
  intro n s' hI
  refine wpAny_mono (turn n s' hI) (fun b s₂ h₂ => ?_) fun _ _ x => x.elim
  cases b with
  | false =>
    simp only [Bool.false_eq_true, if_false] at h₂ ⊢
    exact wpAny_execs_nil h₂
  | true =>
    simp only [if_true] at h₂ ⊢
    refine wpAny_mono h₂ (fun f s₃ h₃ => ?_) fun _ _ x => x.elim
    cases f <;> exact h₃

theorem go_plain {target : Expr} {I : Addr} {v : Value} {o : Obj} {n : String} {Q : Unit → Shared → Prop} (ho : s.heap.get? I = some o) (hc : o.cls = .type n)
    (hn : ["enumerate", "zip", "dict_itemiterator", "dict_reverseitemiterator", "odict_iterator", "itertools.zip_longest", "itertools.pairwise"].contains n = false) (hQ : Q () s) :
    wpAny (model prog w) A (letOwnedTupleGo target (.ref I) v) Q E s := by
  unfold letOwnedTupleGo
  split
  all_goals first
    | exact wpAny_pure hQ
    | (cases v with
      | ref a =>
        refine wpAny_bind (wpAny_load ho ?_)
        try dsimp only
        rw [hc]
        cases o.data with
        | fields vs =>
          try dsimp only
          rw [hn, Bool.false_and, if_neg Bool.false_ne_true]
          exact wpAny_pure hQ
        | _ => exact wpAny_pure hQ
      | _ => exact wpAny_pure hQ)
theorem for_ {target : Expr} {body orelse : List Stmt} {I : Addr} {fp wr : List Addr} {n : Nat} {P : Nat → Value → Prop} {St : Nat → Heap → Prop} (W : Walks prog w A I fp wr n P St) (J : Nat → Heap → Prop) (hst : St 0 s.heap) (hJ : J 0 s.heap)
    (stab : ∀ i h h', J i h → Keeps wr h h' → J i h')
    (turn : ∀ i v h tk, i < n → P i v → St (i + 1) h → J i h → wpAny (model prog w) A (assign target env v) (fun _ s₂ => wpAny (model prog w) A (execs body env) (fun f s₃ => match f with
      | .next | .cont => ∃ h' tk', s₃ = { s with heap := h', toks := tk' } ∧ (∀ b ∈ fp, ∀ o, h.get? b = some o → h'.get? b = some o) ∧ J (i + 1) h'
      | .brk => Q .next s₃
      | .ret v => Q (.ret v) s₃) (fun _ _ => False) s₂) (fun _ _ => False) { s with heap := h, toks := tk })
    (done : ∀ h tk, J n h → wpAny (model prog w) A (execs orelse env) Q (fun _ _ => False) { s with heap := h, toks := tk })
    (hgo : ∀ i v (s : Shared) (Q : Unit → Shared → Prop) (E : Value → Shared → Prop), St i s.heap → Q () s → wpAny (model prog w) A (letOwnedTupleGo target (.ref I) v) Q E s) :
    codeAny (model prog w) A (.forLoop target (.ref I) body orelse env) (fun r s' => match r with | .ok f => Q f s' | .error e => cameBackBy (model prog w) A env E e s') s := by
  refine codeAny_forLoop_any (fun k s' => ∃ i h tk, s' = { s with heap := h, toks := tk } ∧ k + i = n ∧ St i h ∧ J i h) ?_ n ⟨0, s.heap, s.toks, rfl, by omega, hst, hJ⟩
  rintro k s' ⟨i, h, tk, rfl, hki, hSt, hJi⟩
  by_cases hlt : i < n
  · refine W.item i _ _ _ hlt hSt fun v h' tk' hP hSt' hk => hgo _ _ _ _ _ hSt' ?_
    refine wpAny_mono (turn i v h' tk' hlt hP hSt' (stab i h h' hJi hk)) (fun _ s₂ h₂ => ?_) fun _ _ x => x.elim
    refine wpAny_mono h₂ (fun f s₃ h₃ => ?_) fun _ _ x => x.elim
    have go : (∃ h'' tk'', s₃ = { s with heap := h'', toks := tk'' } ∧ (∀ b ∈ fp, ∀ o, h'.get? b = some o → h''.get? b = some o) ∧ J (i + 1) h'') → ∃ m, m < k ∧ ∃ i h tk, s₃ = { s with heap := h, toks := tk } ∧ m + i = n ∧ St i h ∧ J i h := by
      rintro ⟨h'', tk'', rfl, hfp, hJ''⟩
      exact ⟨k - 1, by omega, i + 1, h'', tk'', rfl, by omega, W.frame _ _ _ hSt' hfp, hJ''⟩
    cases f with
    | next => exact go h₃
    | cont => exact go h₃
    | brk => exact h₃
    | ret v => exact h₃
  · have hin : i = n := by omega
    subst hin
    refine W.done _ _ _ hSt fun h' tk' hk => ?_
    exact wpAny_mono (done h' tk' (stab i h h' hJi hk)) (fun _ _ x => x) fun _ _ x => x.elim
end
end
/-! Names -/
section
theorem gn_fspath (w : World) : nsIn (KK w) mainGlobals (Str.ofString "fspath") = some (some (.ref 94)) := by with_unfolding_all rfl
theorem kp_fspath (w : World) : keepIn (KK w) (.ref 94) = true := by with_unfolding_all rfl
theorem gn_get_sep (w : World) : nsIn (KK w) mainGlobals (Str.ofString "_get_sep") = some (some (.ref 108)) := by with_unfolding_all rfl
theorem kp_get_sep (w : World) : keepIn (KK w) (.ref 108) = true := by with_unfolding_all rfl
theorem gn_join (w : World) : nsIn (KK w) mainGlobals (Str.ofString "join") = some (some (.ref 115)) := by with_unfolding_all rfl
theorem kp_join (w : World) : keepIn (KK w) (.ref 115) = true := by with_unfolding_all rfl
theorem gn_splitroot (w : World) : nsIn (KK w) mainGlobals (Str.ofString "splitroot") = some (some (.ref 122)) := by with_unfolding_all rfl
theorem kp_splitroot (w : World) : keepIn (KK w) (.ref 122) = true := by with_unfolding_all rfl
theorem gn_dirname (w : World) : nsIn (KK w) mainGlobals (Str.ofString "dirname") = some (some (.ref 129)) := by with_unfolding_all rfl
theorem kp_dirname (w : World) : keepIn (KK w) (.ref 129) = true := by with_unfolding_all rfl
theorem gn_normpath (w : World) : nsIn (KK w) mainGlobals (Str.ofString "normpath") = some (some (.ref 136)) := by with_unfolding_all rfl
theorem kp_normpath (w : World) : keepIn (KK w) (.ref 136) = true := by with_unfolding_all rfl
theorem gn_heappush (w : World) : nsIn (KK w) mainGlobals (Str.ofString "heappush") = some (some (.ref 143)) := by with_unfolding_all rfl
theorem kp_heappush (w : World) : keepIn (KK w) (.ref 143) = true := by with_unfolding_all rfl
theorem gn_heappop (w : World) : nsIn (KK w) mainGlobals (Str.ofString "heappop") = some (some (.ref 150)) := by with_unfolding_all rfl
theorem kp_heappop (w : World) : keepIn (KK w) (.ref 150) = true := by with_unfolding_all rfl
theorem gn_siftdown (w : World) : nsIn (KK w) mainGlobals (Str.ofString "_siftdown") = some (some (.ref 157)) := by with_unfolding_all rfl
theorem kp_siftdown (w : World) : keepIn (KK w) (.ref 157) = true := by with_unfolding_all rfl
theorem gn_siftup (w : World) : nsIn (KK w) mainGlobals (Str.ofString "_siftup") = some (some (.ref 164)) := by with_unfolding_all rfl
theorem kp_siftup (w : World) : keepIn (KK w) (.ref 164) = true := by with_unfolding_all rfl
theorem gn_S_IMODE (w : World) : nsIn (KK w) mainGlobals (Str.ofString "S_IMODE") = some (some (.ref 171)) := by with_unfolding_all rfl
theorem kp_S_IMODE (w : World) : keepIn (KK w) (.ref 171) = true := by with_unfolding_all rfl
theorem gn_S_IFMT (w : World) : nsIn (KK w) mainGlobals (Str.ofString "S_IFMT") = some (some (.ref 178)) := by with_unfolding_all rfl
theorem kp_S_IFMT (w : World) : keepIn (KK w) (.ref 178) = true := by with_unfolding_all rfl
theorem gn_S_ISLNK (w : World) : nsIn (KK w) mainGlobals (Str.ofString "S_ISLNK") = some (some (.ref 185)) := by with_unfolding_all rfl
theorem kp_S_ISLNK (w : World) : keepIn (KK w) (.ref 185) = true := by with_unfolding_all rfl
theorem gn_filemode (w : World) : nsIn (KK w) mainGlobals (Str.ofString "filemode") = some (some (.ref 225)) := by with_unfolding_all rfl
theorem kp_filemode (w : World) : keepIn (KK w) (.ref 225) = true := by with_unfolding_all rfl
theorem gn_law_numbers (w : World) : nsIn (KK w) mainGlobals (Str.ofString "_law_numbers") = some (some (.ref 230)) := by with_unfolding_all rfl
theorem kp_law_numbers (w : World) : keepIn (KK w) (.ref 230) = true := by with_unfolding_all rfl
theorem gn_law_texts (w : World) : nsIn (KK w) mainGlobals (Str.ofString "_law_texts") = some (some (.ref 237)) := by with_unfolding_all rfl
theorem kp_law_texts (w : World) : keepIn (KK w) (.ref 237) = true := by with_unfolding_all rfl
theorem gn_law_links (w : World) : nsIn (KK w) mainGlobals (Str.ofString "_law_links") = some (some (.ref 244)) := by with_unfolding_all rfl
theorem kp_law_links (w : World) : keepIn (KK w) (.ref 244) = true := by with_unfolding_all rfl
theorem gn_law_modes (w : World) : nsIn (KK w) mainGlobals (Str.ofString "_law_modes") = some (some (.ref 251)) := by with_unfolding_all rfl
theorem kp_law_modes (w : World) : keepIn (KK w) (.ref 251) = true := by with_unfolding_all rfl
theorem gn_law_gained (w : World) : nsIn (KK w) mainGlobals (Str.ofString "_law_gained") = some (some (.ref 256)) := by with_unfolding_all rfl
theorem kp_law_gained (w : World) : keepIn (KK w) (.ref 256) = true := by with_unfolding_all rfl
theorem gn_law_reached (w : World) : nsIn (KK w) mainGlobals (Str.ofString "_law_reached") = some (some (.ref 263)) := by with_unfolding_all rfl
theorem kp_law_reached (w : World) : keepIn (KK w) (.ref 263) = true := by with_unfolding_all rfl
theorem gn_law_signs (w : World) : nsIn (KK w) mainGlobals (Str.ofString "_law_signs") = some (some (.ref 270)) := by with_unfolding_all rfl
theorem kp_law_signs (w : World) : keepIn (KK w) (.ref 270) = true := by with_unfolding_all rfl
theorem gn_filemode_table (w : World) : nsIn (KK w) mainGlobals (Str.ofString "_filemode_table") = some (some (.ref 218)) := by with_unfolding_all rfl
theorem gn_S_IFLNK (w : World) : nsIn (KK w) mainGlobals (Str.ofString "S_IFLNK") = some (some (.int 40960 430)) := by with_unfolding_all rfl
theorem gn_len (w : World) : nsIn (KK w) mainGlobals (Str.ofString "len") = some none := by with_unfolding_all rfl
theorem gn_range (w : World) : nsIn (KK w) mainGlobals (Str.ofString "range") = some none := by with_unfolding_all rfl
theorem gn_isinstance (w : World) : nsIn (KK w) mainGlobals (Str.ofString "isinstance") = some none := by with_unfolding_all rfl
theorem gn_bytes (w : World) : nsIn (KK w) mainGlobals (Str.ofString "bytes") = some none := by with_unfolding_all rfl
theorem gn_str (w : World) : nsIn (KK w) mainGlobals (Str.ofString "str") = some none := by with_unfolding_all rfl
theorem gn_type (w : World) : nsIn (KK w) mainGlobals (Str.ofString "type") = some none := by with_unfolding_all rfl
theorem gn_issubclass (w : World) : nsIn (KK w) mainGlobals (Str.ofString "issubclass") = some none := by with_unfolding_all rfl
theorem gn_enumerate (w : World) : nsIn (KK w) mainGlobals (Str.ofString "enumerate") = some none := by with_unfolding_all rfl
theorem gn_int (w : World) : nsIn (KK w) mainGlobals (Str.ofString "int") = some none := by with_unfolding_all rfl
theorem gn_sorted (w : World) : nsIn (KK w) mainGlobals (Str.ofString "sorted") = some none := by with_unfolding_all rfl
end
/-! Head -/
section
theorem gn_law (w : World) : nsIn (KK w) mainGlobals (Str.ofString "law") = some (some (.ref 275)) := by with_unfolding_all rfl
theorem good_true {cl : Str → Option Addr} {mean : ExcName → Option Value} {ns : List Int} {s₁ : Shared} {h' : Heap} {tk' : Nat} (hg : s₁.gens = #[]) (k : Sub s₁.heap h') :
    GoodWG PySem.Challenge.rw_pd0155_01.row.claim cl mean [ofPy (PyData.list (List.map PyData.int ns))] s₁ (.ok (.ret (.bool true))) { s₁ with heap := h', toks := tk' } :=
  GoodW.toG ⟨Or.inl ⟨_, _, _, rfl, fun _ => rfl, .bool true, by with_unfolding_all rfl, fun _ => ⟨.nil, fun _ q => nomatch q⟩⟩, k, rfl, hg⟩
end
/-! Tup -/
section
/-- an entry of the heap: where its pair lies, and what is in it -/
structure Itm where
  a : Addr
  k : Int
  tk : Tok
  p : Str
  tp : Tok
abbrev pairObj (i : Itm) : Obj := { cls := .type "tuple", data := .seq #[.int i.k i.tk, .str i.p i.tp] }
def Itm.lt (i j : Itm) : Bool := if i.k = j.k then (if i.p = j.p then false else decide (i.p.cps.toList < j.p.cps.toList)) else decide (i.k < j.k)
theorem Itm.lt_true {i j : Itm} (h : i.lt j = true) : i.k ≤ j.k := by
  unfold Itm.lt at h
  split at h
  · omega
  · have := of_decide_eq_true h; omega
theorem Itm.lt_false {i j : Itm} (h : i.lt j = false) : j.k ≤ i.k := by
  unfold Itm.lt at h
  split at h
  · omega
  · have := of_decide_eq_false h; omega

section
variable {prog : Program} {w : World} {A : Around} {E : Value → Shared → Prop} {s : Shared}
theorem pair_lt_tree {i j : Itm} {R : PySem.Fin → Shared → Prop} (hi : s.heap.get? i.a = some (pairObj i)) (hj : s.heap.get? j.a = some (pairObj j)) (h : R (.done (.ret (.bool (i.lt j)))) s) :
    wpAny (model prog w) A (Builtin.«tuple.__lt__» ⟨[.ref i.a, .ref j.a], []⟩) R E s := by
  have hTb : s.TypeIs (.ref j.a) "tuple" := ⟨_, hj, rfl⟩
  show wpAny _ _ (isInstance (.ref j.a) (.type "tuple") >>= _) _ _ s
  refine wpAny_bind (wpAny_isInstance hTb isSubtype_tuple_tuple ?_)
  simp only [Bool.not_true, Bool.false_eq_true, if_false]
  refine wpAny_bind (wpAny_tupleItemsOf hi rfl ?_)
  refine wpAny_bind (wpAny_tupleItemsOf hj rfl ?_)
  refine wpAny_bind ?_
  simp only [List.zip_cons_cons, List.zip_nil_right, List.forIn_cons, List.forIn_nil]
  unfold Itm.lt at h
  refine wpAny_bind (wpAny_bind (wpAny_eqBool_int ?_))
  by_cases hk : i.k = j.k
  · rw [if_pos hk] at h
    simp only [hk, beq_self_eq_true, Bool.not_true, Bool.false_eq_true, if_false]
    refine wpAny_pure ?_
    refine wpAny_bind (wpAny_bind (wpAny_eqBool_str ?_))
    by_cases hp : i.p = j.p
    · rw [if_pos hp] at h
      simp only [hp, decide_true, Bool.not_true, Bool.false_eq_true, if_false]
      refine wpAny_pure (wpAny_pure (wpAny_pure ?_))
      exact h
    · rw [if_neg hp] at h
      simp only [hp, decide_false, Bool.not_false, if_true]
      refine wpAny_bind (wpAny_rule (wpAny_bind ?_))
      refine (P.lt_str (E := E) ?_ : wpAny _ _ (compareOp .Lt _ _) _ _ _)
      exact wpAny_bind (wpAny_pure (wpAny_pure (wpAny_pure (wpAny_pure h))))
  · rw [if_neg hk] at h
    have hk' : (i.k == j.k) = false := by simpa using hk
    simp only [hk', Bool.not_false, if_true]
    refine wpAny_bind (wpAny_rule (wpAny_bind ?_))
    refine (lt_int (E := E) ?_ : wpAny _ _ (compareOp .Lt _ _) _ _ _)
    exact wpAny_bind (wpAny_pure (wpAny_pure (wpAny_pure (wpAny_pure h))))

theorem pair_lt {i j : Itm} {Q : Value → Shared → Prop} (hu : A.units < cLine) (hi : s.heap.get? i.a = some (pairObj i)) (hj : s.heap.get? j.a = some (pairObj j)) (h : Q (.bool (i.lt j)) s) :
    wpAny (model prog w) A (compareOp .Lt (.ref i.a) (.ref j.a)) Q E s := by
  refine (?_ : wpAny _ _ (richCompare .Lt _ _) _ _ _)
  have hTa : s.TypeIs (.ref i.a) "tuple" := ⟨_, hi, rfl⟩
  have hTb : s.TypeIs (.ref j.a) "tuple" := ⟨_, hj, rfl⟩
  exact wpAny_richCompare_same_room (op := .Lt) hTa hTb F.slot_tuple_lt
    (wpAny_call_entry F.slot_tuple_lt hTa F.entry_tuple_lt (pair_lt_tree hi hj ⟨_, rfl, (fun e => nomatch e), h⟩) (F.args_tuple_lt_2 _ _)) hu
end
end
/-! Lst -/
section
def isLst (vs : List Value) (o : Obj) : Prop := ∃ n, o = { cls := .type "list", data := .seq vs.toArray n }
def isTup (vs : List Value) (o : Obj) : Prop := o = { cls := .type "tuple", data := .seq vs.toArray }
theorem Has.list {h : Heap} {a : Addr} {vs : List Value} (x : Has h a (isLst vs)) : h.IsList a vs.toArray := by
  obtain ⟨o, ho, n, rfl⟩ := x
  exact ⟨_, ho, rfl, n, rfl⟩
theorem Has.tup {h : Heap} {a : Addr} {vs : List Value} (x : Has h a (isTup vs)) : h.get? a = some { cls := .type "tuple", data := .seq vs.toArray } := by
  obtain ⟨o, ho, rfl⟩ := x
  exact ho

section
variable {prog : Program} {w : World} {A : Around} {E : Value → Shared → Prop} {s : Shared} {l : Addr} {vs : List Value}
theorem setItem_lst {k : Int} {t : Tok} {v : Value} {Q : Unit → Shared → Prop} (hl : Has s.heap l (isLst vs)) (h0 : 0 ≤ k) (hn : k < vs.length) (hfit : vs.length ≤ sizeLine)
    (hQ : ∀ h', Has h' l (isLst (vs.set k.toNat v)) → Keeps [l] s.heap h' → Q () { s with heap := h' }) : wpAny (model prog w) A (setItem (.ref l) (.int k t) v) Q E s := by
  have hL := hl.list
  have hfit' : k < 2 ^ 63 := by have : sizeLine ≤ 2 ^ 24 := by decide
                                omega
  obtain ⟨o, ho, n, rfl⟩ := hl
  unfold setItem
  try with_reducible refine wpAny_holding ?_
  first | refine wpAny_bind (wpAny_pure ?_) | skip
  refine wpAny_bind (wpAny_sequenceKey hL.typeIs (by decide) ?_)
  refine wpAny_bind (wpAny_callSpecial?_slot (name := Str.ofString "__setitem__") hL.typeIs slot_list_setitem
    (wpAny_call_entry slot_list_setitem hL.typeIs entry_list_setitem ?_ (args_list_setitem _ _ _)))
  show wpAny _ _ (Builtin.List.listSubscript? (.int k t) >>= _) _ _ s
  refine wpAny_bind (wpAny_listSubscript_int (fitsIndex_of h0 hfit') ?_)
  clear hfit'
  obtain ⟨j, rfl⟩ := Int.eq_ofNat_of_zero_le h0
  have hj : j < vs.toArray.size := by rw [List.size_toArray]; omega
  have hx' : vs.toArray[j]? = some vs.toArray[j] := Array.getElem?_eq_getElem hj
  show wpAny _ _ ((seqItemAt l j >>= fun r => pure (r.map (j, ·))) >>= _) _ _ s
  refine wpAny_bind (wpAny_bind (wpAny_seqItemAt ho rfl (wpAny_pure ?_)))
  rw [hx']
  show wpAny _ _ (setSeqItemAt l j v >>= _) _ _ s
  have hfin : Has (s.heap.update l (Obj.mapSeq (·.setIfInBounds j v))) l (isLst (vs.set j v)) := by
    refine ⟨_, Heap.get?_update_self _ ho rfl, n, ?_⟩
    show Obj.mk _ _ _ _ = _
    simp
  refine wpAny_bind (wpAny_setSeqItemAt ho rfl ?_)
  first
    | exact wpAny_bind (wpAny_pure (wpAny_pure ⟨.none, rfl, wpAny_pure (hQ _ hfin (keeps_same (Heap.SameBut.update ..)))⟩))
    | exact wpAny_pure ⟨.none, rfl, wpAny_pure (hQ _ hfin (keeps_same (Heap.SameBut.update ..)))⟩

theorem item_lst {value slice : Expr} {k : Int} {u : Tok} {v : Value} {Q : Value → Shared → Prop} (hl : s.heap.IsList l vs.toArray) (h0 : 0 ≤ k) (hfit : vs.length ≤ sizeLine) (hx : vs[k.toNat]? = some v) (h : Q v s)
    (hs : subscripted slice false (.ref l) (.int k u) = operate [.ref l, .int k u] (getItem (.ref l) (.int k u)) := by with_unfolding_all rfl) :
    wpAny (model prog w) A (subscriptTail value slice (.ref l) (.int k u)) Q E s := by
  have hlt : k.toNat < vs.length := (List.getElem?_eq_some_iff.mp hx).1
  have hfit' : k < 2 ^ 63 := by have : sizeLine ≤ 2 ^ 24 := by decide
                                omega
  exact tail_any hl.typeIs slot_list_getitem.lookup (wpAny_getItem_list hl h0 hfit' (by simpa using hx) h) hs

theorem item_lstN {value slice : Expr} {k : Nat} {u : Tok} {v : Value} {Q : Value → Shared → Prop} (hl : s.heap.IsList l vs.toArray) (hfit : vs.length ≤ sizeLine) (hx : vs[k]? = some v) (h : Q v s)
    (hs : subscripted slice false (.ref l) (.int k u) = operate [.ref l, .int k u] (getItem (.ref l) (.int k u)) := by with_unfolding_all rfl) :
    wpAny (model prog w) A (subscriptTail value slice (.ref l) (.int k u)) Q E s := item_lst hl (by omega) hfit (by simpa using hx) h hs
theorem setItem_lstN {k : Nat} {t : Tok} {v : Value} {Q : Unit → Shared → Prop} (hl : Has s.heap l (isLst vs)) (hn : k < vs.length) (hfit : vs.length ≤ sizeLine)
    (hQ : ∀ h', Has h' l (isLst (vs.set k v)) → Keeps [l] s.heap h' → Q () { s with heap := h' }) : wpAny (model prog w) A (setItem (.ref l) (.int k t) v) Q E s :=
  setItem_lst hl (by omega) (by omega) hfit (by simpa using hQ)
theorem append_lst {v : Value} {Q : Value → Shared → Prop} (hl : Has s.heap l (isLst vs)) (hz : vs.length ≤ sizeLine)
    (h : ∀ h', Has h' l (isLst (vs ++ [v])) → Keeps [l] s.heap h' → Q .none { s with heap := h' }) : wpAny (model prog w) A (call (.builtin "list.append") [.ref l, v]) Q E s := by
  obtain ⟨o, ho, n, rfl⟩ := hl
  refine append_at (its := vs.toArray) (n := n) (hsz := by simpa using hz) ho fun h' hs ho' => h h' ⟨_, ho', n + 1, ?_⟩ (keeps_same hs)
  simp
theorem pop_lst {v : Value} {Q : Value → Shared → Prop} (hl : Has s.heap l (isLst (vs ++ [v]))) (hz : vs.length < sizeLine)
    (h : ∀ h', Has h' l (isLst vs) → Keeps [l] s.heap h' → Q v { s with heap := h' }) : wpAny (model prog w) A (call (.builtin "list.pop") [.ref l]) Q E s := by
  obtain ⟨o, ho, n, rfl⟩ := hl
  have hT : s.TypeIs (.ref l) "list" := ⟨_, ho, rfl⟩
  refine call_meets F.slot_list_pop hT F.entry_list_pop (F.args_list_pop_1 _) (MeetsSeq.list_pop_last l (vs ++ [v]).toArray n v (by simp) (by simp; omega)) ⟨ho, ?_⟩
  refine h _ ⟨_, Heap.get?_update_self _ ho rfl, n + 1, ?_⟩ (keeps_same (Heap.SameBut.update ..))
  show Obj.mk _ _ _ _ = _
  have e : (vs ++ [v]).eraseIdx vs.length = vs := by rw [List.eraseIdx_append_of_length_le (Nat.le_refl _)]; simp
  simp [e]
end

/-- room for calls -/
structure Room (A : Around) (n : Nat) : Prop where
  d : A.depth + n < recursionLimit
  u : A.units + 8 * n < cLine
  hh : A.handled = none
theorem Room.deeper {A : Around} {n : Nat} {env : Env} (r : Room A (n + 1)) : Room (A.deeper env) n := ⟨by show A.depth + 1 + n < _; have := r.d; omega, by show A.units + 3 + 8 * n < _; have := r.u; omega, r.hh⟩
theorem Room.less {A : Around} {n m : Nat} (r : Room A n) (h : m ≤ n := by omega) : Room A m := ⟨by have := r.d; omega, by have := r.u; omega, r.hh⟩
theorem Room.depth {A : Around} {n : Nat} (r : Room A n) : A.depth < recursionLimit := by have := r.d; omega
theorem Room.units {A : Around} {n : Nat} (r : Room A n) : A.units < cLine := by have := r.u; omega
end
/-! Rules -/
section
section
variable {prog : Program} {w : World} {A : Around} {E : Value → Shared → Prop} {s : Shared} {env : Env}
/-- the call of a def of the text by its name: its arguments, then the call -/
theorem callFn {mg mb : Str → Option Value} {g : Heap} {L : Addr} {m : Str → Option Value} {pos : Pos} {fa : Addr} {e : Expr} {rest : List Expr} {Q : Value → Shared → Prop} (O : Ok w mg mb g) (F : Fm g L s.heap m) (hk : keepIn (KK w) (.ref fa) = true)
    (h : wpAny (model prog w) A (spliced (backTo pos (starEach (e :: rest) env))) (fun vs s₁ => Sub g s₁.heap ∧ wpAny (model prog w) A (call (.ref fa) vs) Q E s₁) E s)
    (he : starEach (e :: rest) env = (false, eval e env) :: starEach rest env) (hplain : (backTo pos (starEach rest env)).any (·.1) = false) :
    wpAny (model prog w) A (callWith pos (.ref fa) [] (backTo pos (starEach (e :: rest) env)) []) Q E s :=
  callWith_K (h₀ := g) O.X hk (wpAny_mono h (fun vs s₁ z => ⟨O.X.keeps z.1, z.2⟩) fun _ _ x => x) he hplain
theorem seq_mid {st : Stmt} {rest : List Stmt} {Q : Flow → Shared → Prop} (P : Shared → Prop) (h1 : wpAny (model prog w) A (exec st env) (fun f s' => f = .next ∧ P s') E s) (h2 : ∀ s', P s' → wpAny (model prog w) A (execs rest env) Q E s') :
    wpAny (model prog w) A (execs (st :: rest) env) Q E s := by
  refine wpAny_execs_cons (wpAny_mono h1 (fun f s' q => ?_) fun _ _ x => x)
  obtain ⟨rfl, q⟩ := q
  exact h2 s' q
end
theorem ite_t {c : Prop} [Decidable c] {P Q : Prop} (hc : c) (h : P) : if decide c = true then P else Q := by rw [if_pos (decide_eq_true hc)]; exact h
theorem ite_f {c : Prop} [Decidable c] {P Q : Prop} (hc : ¬ c) (h : Q) : if decide c = true then P else Q := by rw [if_neg (by rw [decide_eq_false hc]; exact Bool.false_ne_true)]; exact h
theorem itb_t {P Q : Prop} {b : Bool} (hb : b = true) (h : P) : if b = true then P else Q := by rw [if_pos hb]; exact h
theorem itb_f {P Q : Prop} {b : Bool} (hb : b = false) (h : Q) : if b = true then P else Q := by rw [hb, if_neg Bool.false_ne_true]; exact h
section
variable {prog : Program} {w : World} {A : Around} {E : Value → Shared → Prop} {s : Shared} {l : Addr} {vs : List Value} {pl : Sem Bool}
theorem Has.noDict {h : Heap} {a : Addr} {vs : List Value} (x : Has h a (isLst vs)) : h.NoDictAt (.ref a) := by
  obtain ⟨o, ho, n, rfl⟩ := x
  exact ⟨_, ho, rfl⟩
theorem truthy_lst {Q : Bool → Shared → Prop} (hl : Has s.heap l (isLst vs)) (hz : vs.length ≤ sizeLine) (h : ∀ tk, Q (decide (vs ≠ [])) { s with toks := tk }) : wpAny (model prog w) A (truthy (.ref l)) Q E s := by
  have : sizeLine ≤ 2 ^ 24 := by decide
  refine wpAny_truthy_list hl.list (by simp; omega) ?_
  have e : (!vs.toArray.isEmpty) = decide (vs ≠ []) := by cases vs <;> simp
  rw [e]
  exact h _
end
section
variable {prog : Program} {w : World} {A : Around} {E : Value → Shared → Prop} {s : Shared}
/-- a tuple made -/
theorem newTup {g : Heap} {L : Addr} {m : Str → Option Value} {led : Lg} {vs : List Value} {Q : Value → Shared → Prop} (F : Fm g L s.heap m) (N : Led g L s.heap led) (hsz : vs.length ≤ sizeLine)
    (h : ∀ a h', Fm g L h' m → Led g L h' ((a, isTup vs) :: led) → Q (.ref a) { s with heap := h' }) : wpAny (model prog w) A (newTuple vs) Q E s :=
  wpAny_newObj_type (h _ _ (F.sub (sub_push _ _)) (N.new F _ _ rfl rfl)) (by show vs.toArray.size ≤ sizeLine; rw [List.size_toArray]; exact hsz)
theorem newLst {g : Heap} {L : Addr} {m : Str → Option Value} {led : Lg} {vs : List Value} {Q : Value → Shared → Prop} (F : Fm g L s.heap m) (N : Led g L s.heap led) (hsz : vs.length ≤ sizeLine)
    (h : ∀ a h', Fm g L h' m → Led g L h' ((a, isLst vs) :: led) → Q (.ref a) { s with heap := h' }) : wpAny (model prog w) A (newList vs) Q E s :=
  wpAny_newObj_type (h _ _ (F.sub (sub_push _ _)) (N.new F _ _ ⟨0, rfl⟩ rfl)) (by show vs.toArray.size ≤ sizeLine; rw [List.size_toArray]; exact hsz)
end
theorem boot_issub : bootBuiltins (Str.ofString "issubclass") = some (.builtin "issubclass") := by decide +kernel
section
variable {prog : Program} {w : World} {A : Around} {E : Value → Shared → Prop} {s : Shared} {env : Env} {a b : Int} {t u : Tok} {Q : Value → Shared → Prop}
theorem cst_int {i : Int} {k : Nat} {pos : Pos} (h : ∀ t' tk, Q (.int i t') { s with toks := tk }) : wpAny (model prog w) A (eval (.Constant (.int i) k pos) env) Q E s := wpAny_Constant_int (h _ _)
theorem cst_str {x : Str} {k : Nat} {pos : Pos} (h : ∀ t' tk, Q (.str x t') { s with toks := tk }) : wpAny (model prog w) A (eval (.Constant (.str x) k pos) env) Q E s := Calls.Constant_str (h _ _)
theorem addI (h : ∀ t' tk, Q (.int (a + b) t') { s with toks := tk }) : wpAny (model prog w) A (binaryOp .Add (.int a t) (.int b u)) Q E s := P.add_int (h _ _)
theorem subI (h : ∀ t' tk, Q (.int (a - b) t') { s with toks := tk }) : wpAny (model prog w) A (binaryOp .Sub (.int a t) (.int b u)) Q E s := P.sub_int (h _ _)
theorem mulI (hm : IntMulOk a b) (h : ∀ t' tk, Q (.int (a * b) t') { s with toks := tk }) : wpAny (model prog w) A (binaryOp .Mult (.int a t) (.int b u)) Q E s := mul_int (h _ _) hm
theorem andI (h : ∀ t' tk, Q (.int (Builtin.bitAnd a b) t') { s with toks := tk }) : wpAny (model prog w) A (binaryOp .BitAnd (.int a t) (.int b u)) Q E s := and_int (h _ _)
theorem orI (h : ∀ t' tk, Q (.int (Builtin.bitOr a b) t') { s with toks := tk }) : wpAny (model prog w) A (binaryOp .BitOr (.int a t) (.int b u)) Q E s := or_int (h _ _)
theorem modI (hb : b ≠ 0) (h : ∀ t' tk, Q (.int (a.fmod b) t') { s with toks := tk }) : wpAny (model prog w) A (binaryOp .Mod (.int a t) (.int b u)) Q E s := mod_int' hb (h _ _)
theorem divI (hb : b ≠ 0) (ha : b.natAbs < 2 ^ 30) (h : ∀ t' tk, Q (.int (a.fdiv b) t') { s with toks := tk }) : wpAny (model prog w) A (binaryOp .FloorDiv (.int a t) (.int b u)) Q E s := floordiv_int hb (h _ _) (Or.inl (PyProof.noPylong_small (by omega)))
theorem shrI (hb : 0 ≤ b) (h : ∀ t' tk, Q (.int (a.fdiv (2 ^ b.toNat)) t') { s with toks := tk }) : wpAny (model prog w) A (binaryOp .RShift (.int a t) (.int b u)) Q E s := rshift_int hb (h _ _)
theorem isi_bytes {x : Str} (h : ∀ tk, Q (.bool false) { s with toks := tk }) : wpAny (model prog w) A (call (.builtin "isinstance") [.str x u, .type "bytes"]) Q E s := IsiPair.str_bytes (h _)
theorem lenL {l : Addr} {vs : List Value} (hl : s.heap.IsList l vs.toArray) (hz : vs.length ≤ sizeLine) (h : ∀ t' tk, Q (.int vs.length t') { s with toks := tk }) : wpAny (model prog w) A (call (.builtin "len") [.ref l]) Q E s := by
  have : sizeLine ≤ 2 ^ 24 := by decide
  refine call_len_list hl (by simp; omega) ?_
  rw [show vs.toArray.size = vs.length by simp]
  exact h _ _
end
section
variable {prog : Program} {w : World} {A : Around} {E : Value → Shared → Prop} {s : Shared} {env : Env} {id : String} {name : Str} {o e : Expr} {rest : List Expr} {apos pos : Pos} {pl : Sem Bool} {Q : Value → Shared → Prop}
/-- a method of a text, called with arguments -/
theorem callStr (slot : Slot "str" name id) (ty : typeOf (.builtin id) = pure (.type "method_descriptor"))
    (h : wpAny (model prog w) A (eval o env) (fun ov s₁ => ∃ x t, ov = .str x t ∧ wpAny (model prog w) A (spliced (backTo pos (starEach (e :: rest) env))) (fun vs s₂ => wpAny (model prog w) A (call (.builtin id) (.str x t :: vs)) Q E s₂) E s₁) E s)
    (he : eval (.Call (.Attribute o name apos) (e :: rest) [] pos) env = (do
      let ov ← eval o env
      standAt apos.atName
      let (f, first) ← holding [ov] (getMethod ov name pl)
      callWith pos f first (backTo pos (starEach (e :: rest) env)) []))
    (hs : starEach (e :: rest) env = (false, eval e env) :: starEach rest env) (hplain : (backTo pos (starEach rest env)).any (·.1) = false) :
    wpAny (model prog w) A (eval (.Call (.Attribute o name apos) (e :: rest) [] pos) env) Q E s := by
  refine MethodCall_ (wpAny_mono h (fun ov s₁ q => ?_) fun _ _ x => x) he
  obtain ⟨x, t, rfl, q⟩ := q
  exact getMethod_builtin (typeIs_str _ _ _) F.plainAttrs_str slot ty GM.noRef (callWith_method1 q hs hplain)
/-- a method of a list -/
theorem callLst (slot : Slot "list" name id) (ty : typeOf (.builtin id) = pure (.type "method_descriptor"))
    (h : wpAny (model prog w) A (eval o env) (fun ov s₁ => ∃ l vs, ov = .ref l ∧ Has s₁.heap l (isLst vs) ∧ wpAny (model prog w) A (spliced (backTo pos (starEach (e :: rest) env))) (fun vs s₂ => wpAny (model prog w) A (call (.builtin id) (.ref l :: vs)) Q E s₂) E s₁) E s)
    (he : eval (.Call (.Attribute o name apos) (e :: rest) [] pos) env = (do
      let ov ← eval o env
      standAt apos.atName
      let (f, first) ← holding [ov] (getMethod ov name pl)
      callWith pos f first (backTo pos (starEach (e :: rest) env)) []))
    (hs : starEach (e :: rest) env = (false, eval e env) :: starEach rest env) (hplain : (backTo pos (starEach rest env)).any (·.1) = false) :
    wpAny (model prog w) A (eval (.Call (.Attribute o name apos) (e :: rest) [] pos) env) Q E s := by
  refine MethodCall_ (wpAny_mono h (fun ov s₁ q => ?_) fun _ _ x => x) he
  obtain ⟨l, vs, rfl, hl, q⟩ := q
  exact getMethod_list_of slot ty hl.list hl.noDict (callWith_method1 q hs hplain)
theorem callLst0 (slot : Slot "list" name id) (ty : typeOf (.builtin id) = pure (.type "method_descriptor"))
    (h : wpAny (model prog w) A (eval o env) (fun ov s₁ => ∃ l vs, ov = .ref l ∧ Has s₁.heap l (isLst vs) ∧ wpAny (model prog w) A (call (.builtin id) [.ref l]) Q E s₁) E s)
    (he : eval (.Call (.Attribute o name apos) [] [] pos) env = (do
      let ov ← eval o env
      standAt apos.atName
      let (f, first) ← holding [ov] (getMethod ov name pl)
      callWith pos f first (backTo pos (starEach [] env)) [])) :
    wpAny (model prog w) A (eval (.Call (.Attribute o name apos) [] [] pos) env) Q E s := by
  refine MethodCall_ (wpAny_mono h (fun ov s₁ q => ?_) fun _ _ x => x) he
  obtain ⟨l, vs, rfl, hl, q⟩ := q
  exact getMethod_list_of slot ty hl.list hl.noDict (callWith_method0 q)
end
end
/-! Short -/
section
theorem lit_sep : (Str.ofString "/").length = 1 := by decide
theorem lit_dot : (Str.ofString ".").length = 1 := by decide
theorem lit_up : (Str.ofString "..").length = 2 := by decide
theorem lit_upd : (Str.ofString "../").length = 3 := by decide
theorem lit_sd : (Str.ofString "/.").length = 2 := by decide
theorem lit_x : (Str.ofString "x/../").length = 5 := by decide
theorem lit_nil : (Str.ofString "").length = 0 := by decide
section
variable {prog : Program} {w : World} {A : Around} {E : Value → Shared → Prop} {s : Shared} {L a c fa : Addr} {g : Heap} {m mg mb : Str → Option Value} {ps : List (Str × Value)} {u : Str → Option Value} {led : Lg} {env : Env} {x : Str} {pos : Pos} {v : Value} {Q : Value → Shared → Prop}
theorem qlo (h : Q v s) (F : Fm g L s.heap (ov ps u) := by assumption) (hv : ps.lookup x = some v := by with_unfolding_all rfl)
    (hk : env.scope.kind = .function := by with_unfolding_all rfl) (hl : env.kindOf x = some .local := by with_unfolding_all rfl) (hd : (x == ("__debug__" : Str)) = false := by with_unfolding_all decide) (hL : env.locals = L := by with_unfolding_all rfl) :
    wpAny (model prog w) A (eval (.Name x pos) env) Q E s := ldo F hv h hk hl hd hL
theorem qln (h : Q v s) (F : Fm g L s.heap (ov ps u) := by assumption) (hv : ps.lookup x = some v := by with_unfolding_all rfl)
    (hk : env.scope.kind = .function := by with_unfolding_all rfl) (hl : env.kindOf x = some .local := by with_unfolding_all rfl) (hL : env.locals = L := by with_unfolding_all rfl) :
    wpAny (model prog w) A (loadName env x) Q E s := ldno F hv h hk hl hL
theorem qst {Q : Unit → Shared → Prop} (h : ∀ h' tk, Fm g L h' (ov ((x, v) :: ps) u) → Led g L h' led → Q () { s with heap := h', toks := tk }) (F : Fm g L s.heap (ov ps u) := by assumption) (N : Led g L s.heap led := by assumption)
    (hk : env.scope.kind = .function := by with_unfolding_all rfl) (hl : env.kindOf x = some .local := by with_unfolding_all rfl) (hL : env.locals = L := by with_unfolding_all rfl) :
    wpAny (model prog w) A (storeName env x v) Q E s := sto F N h hk hl hL
theorem qgl (hv : nsIn (KK w) mainGlobals x = some (some v)) (h : Q v s) (O : Ok w mg mb g := by assumption) (F : Fm g L s.heap m := by assumption)
    (hk : env.scope.kind = .function := by with_unfolding_all rfl) (hx : env.kindOf x = some .globalImplicit := by with_unfolding_all rfl) (hd : (x == ("__debug__" : Str)) = false := by with_unfolding_all decide) (hg : env.globals = mainGlobals := by with_unfolding_all rfl) :
    wpAny (model prog w) A (eval (.Name x pos) env) Q E s := glo O F hv h hk hx hd hg
theorem qbl (hv : nsIn (KK w) mainGlobals x = some none) (hb : bootBuiltins x = some v) (h : Q v s) (O : Ok w mg mb g := by assumption) (F : Fm g L s.heap m := by assumption) (hn : x ≠ "__name__" := by with_unfolding_all decide)
    (hk : env.scope.kind = .function := by with_unfolding_all rfl) (hx : env.kindOf x = some .globalImplicit := by with_unfolding_all rfl) (hd : (x == ("__debug__" : Str)) = false := by with_unfolding_all decide) (hg : env.globals = mainGlobals := by with_unfolding_all rfl) (hbn : env.builtins = builtinsNs := by with_unfolding_all rfl) :
    wpAny (model prog w) A (eval (.Name x pos) env) Q E s := blt O F hv hb h hn hk hx hd hg hbn
theorem qlc (i : Nat) (h : Q v s) (hc : env.cells.lookup x = some c := by with_unfolding_all rfl) (N : Led g L s.heap led := by assumption) (hi : led[i]? = some (c, isCell (some v)) := by with_unfolding_all rfl)
    (hk : env.scope.kind = .function := by with_unfolding_all rfl) (hl : env.kindOf x = some .cell := by with_unfolding_all rfl) (hd : (x == ("__debug__" : Str)) = false := by with_unfolding_all decide) :
    wpAny (model prog w) A (eval (.Name x pos) env) Q E s := ldc hc (N.get i hi) h hk hl hd
theorem qfc (h : Q v s) (hc : env.cells.lookup x = some c := by with_unfolding_all rfl) (F : Fm g L s.heap m := by assumption) (K : Has g c (isCell (some v)) := by assumption)
    (hk : env.scope.kind = .function := by with_unfolding_all rfl) (hl : env.kindOf x = some .cell := by with_unfolding_all rfl) (hd : (x == ("__debug__" : Str)) = false := by with_unfolding_all decide) :
    wpAny (model prog w) A (eval (.Name x pos) env) Q E s := ldc hc (let ⟨o, ho, r⟩ := K; ⟨o, F.keep _ _ ho, r⟩) h hk hl hd
theorem qfn {e : Expr} {rest : List Expr} (hk : keepIn (KK w) (.ref fa) = true)
    (h : wpAny (model prog w) A (spliced (backTo pos (starEach (e :: rest) env))) (fun vs s₁ => Sub g s₁.heap ∧ wpAny (model prog w) A (call (.ref fa) vs) Q E s₁) E s) (O : Ok w mg mb g := by assumption) (F : Fm g L s.heap m := by assumption)
    (he : starEach (e :: rest) env = (false, eval e env) :: starEach rest env := by with_unfolding_all rfl) (hplain : (backTo pos (starEach rest env)).any (·.1) = false := by with_unfolding_all rfl) :
    wpAny (model prog w) A (callWith pos (.ref fa) [] (backTo pos (starEach (e :: rest) env)) []) Q E s := callFn O F hk h he hplain
end
end
local macro_rules | `(tactic| walk_at "room") => `(tactic| first | exact Room.less (by assumption) | exact Room.deeper (by assumption) | exact (Room.deeper (by assumption)).less)
local macro_rules | `(tactic| walk_at "size") => `(tactic| first | (with_reducible assumption) | omega | (simp only [Str.length_append, lit_sep, lit_dot, lit_up, lit_upd, lit_sd, lit_x, lit_nil]; omega))
/-! Sift -/
section
def siftDown (new : Itm) (xs : List Itm) (pos : Nat) : List Itm :=
  if pos = 0 then xs.set 0 new else
    match xs[(pos - 1) / 2]? with
    | none => xs
    | some par => if new.lt par = true then siftDown new (xs.set pos par) ((pos - 1) / 2) else xs.set pos new
termination_by pos
decreasing_by omega

abbrev refs (xs : List Itm) : List Value := xs.map fun i => .ref i.a
theorem refs_set (xs : List Itm) (i : Nat) (x : Itm) : refs (xs.set i x) = (refs xs).set i (.ref x.a) := List.map_set
def Pairs (h : Heap) (xs : List Itm) : Prop := ∀ i ∈ xs, h.get? i.a = some (pairObj i)

section
variable {prog : Program} {w : World} {A : Around} {E : Value → Shared → Prop} {s : Shared} {hT : Heap} {mg mb : Str → Option Value}
theorem siftdown_spec {hp : Addr} {xs : List Itm} {pos : Nat} {new : Itm} {t u : Tok} {Q : Value → Shared → Prop} (O : Ok w mg mb hT) (kT : Sub hT s.heap) (hW : hT.get? hp = none) (R : Room A 2)
    (hl : Has s.heap hp (isLst (refs xs))) (hz : xs.length ≤ sizeLine) (hP : Pairs s.heap xs) (hpos : xs[pos]? = some new)
    (h : ∀ h' tk', Keeps [hp] s.heap h' → Has h' hp (isLst (refs (siftDown new xs pos))) → Q .none { s with heap := h', toks := tk' }) :
    wpAny (model prog w) A (call (.ref 157) [.ref hp, .int 0 t, .int pos u]) Q E s := by
  refine enter [(Str.ofString "pos", .int pos u), (Str.ofString "startpos", .int 0 t), (Str.ofString "heap", .ref hp)].reverse [hp] [(hp, isLst (refs xs))] O kT (by simpa using hW) rfl rfl R.depth (by simpa using hl) (by simp) rfl (locs rfl) ?_
  intro L h₁ tk O' F N
  rw [List.reverse_reverse] at F
  have R' := R.deeper (env := envOf (Str.ofString "_siftdown") ⟨.function, [], false, false, []⟩ L 157 (.ref 156))
  have hP' : Pairs (hideAll s.heap [hp]) xs := fun i hi => hideAll_get _ (hP i hi) (by
    intro q
    obtain ⟨o, ho, n, rfl⟩ := hl
    have := hP i hi
    rw [List.mem_singleton.mp q, ho] at this
    have e := congrArg Obj.cls (Option.some.inj this)
    exact absurd (Value.type.inj e) (by decide))
  refine wpAny_execs_cons ?_
  refine wpAny_Assign_Name ?_ (by with_unfolding_all rfl)
  refine Subscript_ ?_
  refine qlo ?_
  refine qlo ?_
  dsimp only
  refine item_lstN (N.get 0 rfl).list (by simpa using hz) (v := .ref new.a) (by simp [hpos]) ?_
  refine qst ?_; intro h' tk' F' N'
  refine wpAny_execs_cons ?_
  dsimp only
  refine while_ (fun n s' => ∃ ys p h tk tp tz u', s' = { s with heap := h, toks := tk } ∧ n = p ∧ siftDown new ys p = siftDown new xs pos ∧ p < ys.length ∧ ys.length = xs.length ∧ (∀ y ∈ ys, y ∈ xs) ∧
    Fm (hideAll s.heap [hp]) L h (ov [(Str.ofString "heap", .ref hp), (Str.ofString "startpos", .int 0 tz), (Str.ofString "pos", .int p tp), (Str.ofString "newitem", .ref new.a)] u') ∧ Led (hideAll s.heap [hp]) L h [(hp, isLst (refs ys))]) pos ?_ ?_
  · obtain ⟨u', F''⟩ := F'.sel [(Str.ofString "heap", .ref hp), (Str.ofString "startpos", .int 0 t), (Str.ofString "pos", .int pos u), (Str.ofString "newitem", .ref new.a)] (by with_unfolding_all rfl)
    exact ⟨xs, pos, _, _, _, _, u', rfl, rfl, rfl, (List.getElem?_eq_some_iff.mp hpos).1, rfl, fun _ h => h, F'', N'⟩
  · clear F N F' N'
    rintro n s' ⟨ys, p, h2, tk2, tp, tz, u2, rfl, rfl, e, hp1, hlen, hmem, F2, N2⟩
    refine wpAny_isTrue_Compare1 ?_ (by with_unfolding_all rfl)
    refine qlo ?_
    refine qlo ?_
    refine P.gt_int ?_
    refine wpAny_truthy_bool ?_
    dsimp only
    by_cases hn : 0 < n
    · rw [if_pos (by simpa using hn)]
      have hpar : (n - 1) / 2 < ys.length := by omega
      obtain ⟨par, hpe⟩ : ∃ par, ys[(n - 1) / 2]? = some par := ⟨_, List.getElem?_eq_getElem hpar⟩
      have hpm : par ∈ ys := List.mem_of_getElem? hpe
      refine wpAny_execs_cons ?_
      refine wpAny_Assign_Name ?_ (by with_unfolding_all rfl)
      refine wpAny_BinOp ?_
      refine wpAny_BinOp ?_
      refine qlo ?_
      refine cst_int ?_; intro t' k'
      refine subI ?_; intro t' k'
      refine cst_int ?_; intro t' k'
      dsimp only
      refine shrI (by decide) ?_; intro t' k'
      rw [show ((n : Int) - 1).fdiv (2 ^ (1 : Int).toNat) = (((n - 1) / 2 : Nat) : Int) by rw [Int.fdiv_eq_ediv_of_nonneg _ (by decide)]; simp; omega]
      refine qst ?_; intro h' tk' F' N'
      refine wpAny_execs_cons ?_
      refine wpAny_Assign_Name ?_ (by with_unfolding_all rfl)
      refine Subscript_ ?_
      refine qlo ?_
      refine qlo ?_
      dsimp only
      refine item_lstN (N'.get 0 rfl).list (by simpa [hlen] using hz) (v := .ref par.a) (by simp [hpe]) ?_
      refine qst ?_; intro h' tk' F' N'
      refine wpAny_execs_cons ?_
      refine wpAny_If ?_
      refine wpAny_isTrue_Compare1 ?_ (by with_unfolding_all rfl)
      refine qlo ?_
      refine qlo ?_
      dsimp only
      refine pair_lt (R.deeper (n := 1)).units (F'.keep _ _ (hP' _ (List.mem_of_getElem? hpos))) (F'.keep _ _ (hP' _ (hmem _ hpm))) ?_
      refine wpAny_truthy_bool ?_
      rw [siftDown, if_neg (by omega), hpe] at e
      dsimp only at e
      by_cases hlt : new.lt par = true
      · rw [if_pos hlt] at e ⊢
        refine wpAny_execs_cons ?_
        refine wpAny_Assign_Subscript ?_ (by with_unfolding_all rfl)
        refine qlo ?_
        refine qlo ?_
        refine qlo ?_
        dsimp only
        refine setItem_lstN (N'.get 0 rfl) (by simpa using hp1) (by simpa [hlen] using hz) ?_
        intro h3 H3 k3
        have F3 := F'.upd (N'.ne 0 rfl) (N'.off 0 rfl) k3
        have N3 := N'.upd 0 rfl k3 H3
        rw [List.set_cons_zero] at N3
        refine wpAny_execs_cons ?_
        refine wpAny_Assign_Name ?_ (by with_unfolding_all rfl)
        refine qlo ?_
        refine qst ?_; intro h' tk' F' N'
        refine wpAny_execs_cons ?_
        refine wpAny_Continue ?_
        dsimp only
        obtain ⟨u', F''⟩ := F'.sel [(Str.ofString "heap", .ref hp), (Str.ofString "startpos", .int 0 tz), (Str.ofString "pos", .int ((n - 1) / 2 : Nat) _), (Str.ofString "newitem", .ref new.a)] (by with_unfolding_all rfl)
        refine ⟨(n - 1) / 2, by omega, ys.set n par, (n - 1) / 2, _, _, _, _, u', rfl, rfl, e, by simpa using hpar, by simpa using hlen, fun y hy => ?_, F'', by rw [refs_set]; exact N'⟩
        rcases List.mem_or_eq_of_mem_set hy with q | rfl
        · exact hmem y q
        · exact hmem _ hpm
      · rw [if_neg hlt] at e ⊢
        refine wpAny_execs_nil ?_
        refine wpAny_execs_cons ?_
        refine wpAny_Break ?_
        refine wpAny_execs_cons ?_
        refine wpAny_Assign_Subscript ?_ (by with_unfolding_all rfl)
        refine qlo ?_
        refine qlo ?_
        refine qlo ?_
        dsimp only
        refine setItem_lstN (N'.get 0 rfl) (by simpa using hp1) (by simpa [hlen] using hz) ?_
        intro h3 H3 k3
        refine wpAny_execs_nil ?_
        dsimp only
        exact h _ _ (keeps_of (F'.upd (N'.ne 0 rfl) (N'.off 0 rfl) k3)) (by rw [← e]; simpa [List.map_set] using H3)
    · rw [if_neg (by simpa using hn)]
      have hn0 : n = 0 := by omega
      subst hn0
      rw [siftDown, if_pos rfl] at e
      refine wpAny_execs_cons ?_
      refine wpAny_Assign_Subscript ?_ (by with_unfolding_all rfl)
      refine qlo ?_
      refine qlo ?_
      refine qlo ?_
      dsimp only
      refine setItem_lstN (N2.get 0 rfl) (by simpa using hp1) (by simpa [hlen] using hz) ?_
      intro h3 H3 k3
      refine wpAny_execs_nil ?_
      dsimp only
      exact h _ _ (keeps_of (F2.upd (N2.ne 0 rfl) (N2.off 0 rfl) k3)) (by rw [← e]; simpa [List.map_set] using H3)
end
end
/-! SiftUp -/
section
def upChild (xs : List Itm) (p : Nat) : Nat :=
  match xs[2 * p + 1]?, xs[2 * p + 2]? with
  | some a, some b => if a.lt b = true then 2 * p + 1 else 2 * p + 2
  | _, _ => 2 * p + 1
def siftUp (new : Itm) (xs : List Itm) (pos : Nat) : List Itm :=
  if h : 2 * pos + 1 < xs.length then
    match xs[upChild xs pos]? with
    | none => xs
    | some c => siftUp new (xs.set pos c) (upChild xs pos)
  else siftDown new (xs.set pos new) pos
termination_by xs.length - pos
decreasing_by
  simp only [List.length_set]
  have : pos < upChild xs pos := by unfold upChild; split <;> (try split) <;> omega
  omega
theorem upChild_le (xs : List Itm) (p : Nat) : upChild xs p ≤ 2 * p + 2 ∧ p < upChild xs p := by
  unfold upChild; split <;> (try split) <;> omega
theorem upChild_lt {xs : List Itm} {p : Nat} (h : 2 * p + 1 < xs.length) : upChild xs p < xs.length := by
  unfold upChild
  split
  · rename_i a b ha hb
    have := (List.getElem?_eq_some_iff.mp hb).1
    split <;> omega
  · exact h

section
variable {prog : Program} {w : World} {A : Around} {E : Value → Shared → Prop} {s : Shared} {hT : Heap} {mg mb : Str → Option Value}
theorem siftup_spec {hp : Addr} {xs : List Itm} {new : Itm} {u : Tok} {Q : Value → Shared → Prop} (O : Ok w mg mb hT) (kT : Sub hT s.heap) (hW : hT.get? hp = none) (R : Room A 4)
    (hl : Has s.heap hp (isLst (refs xs))) (hz : xs.length ≤ sizeLine) (hP : Pairs s.heap xs) (hpos : xs[0]? = some new)
    (h : ∀ h' tk', Keeps [hp] s.heap h' → Has h' hp (isLst (refs (siftUp new xs 0))) → Q .none { s with heap := h', toks := tk' }) :
    wpAny (model prog w) A (call (.ref 164) [.ref hp, .int 0 u]) Q E s := by
  have hz' : sizeLine ≤ 2 ^ 24 := by decide
  refine enter [(Str.ofString "pos", .int 0 u), (Str.ofString "heap", .ref hp)].reverse [hp] [(hp, isLst (refs xs))] O kT (by simpa using hW) rfl rfl R.depth (by simpa using hl) (by simp) rfl (locs rfl) ?_
  intro L h₁ tk O' F N
  rw [List.reverse_reverse] at F
  have hP' : Pairs (hideAll s.heap [hp]) xs := fun i hi => hideAll_get _ (hP i hi) (by
    intro q
    obtain ⟨o, ho, n, rfl⟩ := hl
    have := hP i hi
    rw [List.mem_singleton.mp q, ho] at this
    have e := congrArg Obj.cls (Option.some.inj this)
    exact absurd (Value.type.inj e) (by decide))
  refine wpAny_execs_cons ?_
  refine wpAny_Assign_Name ?_ (by with_unfolding_all rfl)
  refine Call_ ?_ (by with_unfolding_all rfl)
  refine qbl (gn_len _) boot_len ?_
  refine callWith_builtin1 ?_ (by with_unfolding_all rfl) (by with_unfolding_all rfl)
  refine args_cons ?_ (by with_unfolding_all rfl)
  refine qlo ?_
  refine args_nil ?_
  dsimp only
  refine lenL (N.get 0 rfl).list (by simpa using hz) ?_; intro t' k'
  rw [show (refs xs).length = xs.length by simp]
  refine qst ?_; intro h' tk' F' N'
  refine wpAny_execs_cons ?_
  refine wpAny_Assign_Name ?_ (by with_unfolding_all rfl)
  refine qlo ?_
  refine qst ?_; intro h' tk' F' N'
  refine wpAny_execs_cons ?_
  refine wpAny_Assign_Name ?_ (by with_unfolding_all rfl)
  refine Subscript_ ?_
  refine qlo ?_
  refine qlo ?_
  dsimp only
  refine item_lst (N'.get 0 rfl).list (by decide) (by simpa using hz) (v := .ref new.a) (by simp [hpos]) ?_
  refine qst ?_; intro h' tk' F' N'
  refine wpAny_execs_cons ?_
  refine wpAny_Assign_Name ?_ (by with_unfolding_all rfl)
  refine wpAny_BinOp ?_
  refine wpAny_BinOp ?_
  refine cst_int ?_; intro t' k'
  refine qlo ?_
  dsimp only
  refine mulI (by mul_fits) ?_; intro t' k'
  refine cst_int ?_; intro t' k'
  refine addI ?_; intro t' k'
  refine qst ?_; intro h' tk' F' N'
  refine wpAny_execs_cons ?_
  dsimp only
  refine while_ (fun n s' => ∃ ys p h tk t1 t2 t3 t4 u', s' = { s with heap := h, toks := tk } ∧ n = ys.length - p ∧ siftUp new ys p = siftUp new xs 0 ∧ p < ys.length ∧ ys.length = xs.length ∧ (∀ y ∈ ys, y ∈ xs) ∧
    Fm (hideAll s.heap [hp]) L h (ov [(Str.ofString "heap", .ref hp), (Str.ofString "endpos", .int xs.length t1), (Str.ofString "startpos", .int 0 t2), (Str.ofString "newitem", .ref new.a), (Str.ofString "pos", .int p t3), (Str.ofString "childpos", .int (2 * p + 1 : Nat) t4)] u') ∧ Led (hideAll s.heap [hp]) L h [(hp, isLst (refs ys))]) xs.length ?_ ?_
  · obtain ⟨u', F''⟩ := F'.sel [(Str.ofString "heap", .ref hp), (Str.ofString "endpos", .int xs.length _), (Str.ofString "startpos", .int 0 _), (Str.ofString "newitem", .ref new.a), (Str.ofString "pos", .int 0 _), (Str.ofString "childpos", .int (2 * 0 + 1) _)] (by with_unfolding_all rfl)
    exact ⟨xs, 0, _, _, _, _, _, _, u', rfl, rfl, rfl, (List.getElem?_eq_some_iff.mp hpos).1, rfl, fun _ h => h, F'', N'⟩
  · clear F N F' N'
    rintro n s' ⟨ys, p, h2, tk2, t1, t2, t3, t4, u2, rfl, rfl, e, hp1, hlen, hmem, F2, N2⟩
    refine wpAny_isTrue_Compare1 ?_ (by with_unfolding_all rfl)
    refine qlo ?_
    refine qlo ?_
    refine P.lt_int ?_
    refine wpAny_truthy_bool ?_
    dsimp only
    by_cases hc : 2 * p + 1 < ys.length
    · refine ite_t (by omega) ?_
      obtain ⟨ca, hca⟩ : ∃ ca, ys[2 * p + 1]? = some ca := ⟨_, List.getElem?_eq_getElem hc⟩
      have hcl := upChild_lt hc
      obtain ⟨cc, hcc⟩ : ∃ cc, ys[upChild ys p]? = some cc := ⟨_, List.getElem?_eq_getElem hcl⟩
      refine wpAny_execs_cons ?_
      refine wpAny_Assign_Name ?_ (by with_unfolding_all rfl)
      refine wpAny_BinOp ?_
      refine qlo ?_
      refine cst_int ?_; intro t' k'
      refine addI ?_; intro t' k'
      refine qst ?_; intro h' tk' F' N'
      refine seq_mid (fun s' => ∃ h tk t3 t4 u', s' = { s with heap := h, toks := tk } ∧ Fm (hideAll s.heap [hp]) L h (ov [(Str.ofString "heap", .ref hp), (Str.ofString "endpos", .int xs.length t1), (Str.ofString "startpos", .int 0 t2), (Str.ofString "newitem", .ref new.a), (Str.ofString "pos", .int p t3), (Str.ofString "childpos", .int (upChild ys p) t4)] u') ∧ Led (hideAll s.heap [hp]) L h [(hp, isLst (refs ys))]) ?_ ?_
      · refine wpAny_If ?_
        refine isTrue_and ?_
        refine wpAny_isTrue_Compare1 ?_ (by with_unfolding_all rfl)
        refine qlo ?_
        refine qlo ?_
        refine P.lt_int ?_
        refine wpAny_truthy_bool ?_
        dsimp only
        by_cases hr : 2 * p + 2 < ys.length
        · obtain ⟨cb, hcb⟩ : ∃ cb, ys[2 * p + 2]? = some cb := ⟨_, List.getElem?_eq_getElem hr⟩
          refine ite_t (by omega) ?_
          refine isTrue_and ?_
          refine isTrue_not ?_
          refine wpAny_isTrue_Compare1 ?_ (by with_unfolding_all rfl)
          refine Subscript_ ?_
          refine qlo ?_
          refine qlo ?_
          refine item_lstN (N'.get 0 rfl).list (by simpa [hlen] using hz) (v := .ref ca.a) (by simp [hca]) ?_
          refine Subscript_ ?_
          refine qlo ?_
          refine qlo ?_
          refine item_lstN (k := 2 * p + 2) (N'.get 0 rfl).list (by simpa [hlen] using hz) (v := .ref cb.a) (by simp [hcb]) ?_
          skip
          refine pair_lt (R.deeper (n := 3)).units (F'.keep _ _ (hP' _ (hmem _ (List.mem_of_getElem? hca)))) (F'.keep _ _ (hP' _ (hmem _ (List.mem_of_getElem? hcb)))) ?_
          refine wpAny_truthy_bool ?_
          cases hlt : ca.lt cb with
          | true =>
            skip
            have ec : upChild ys p = 2 * p + 1 := by unfold upChild; rw [hca, hcb]; simp [hlt]
            try refine itb_f rfl ?_
            refine itb_f rfl ?_
            refine wpAny_execs_nil ?_
            rw [ec]
            obtain ⟨u', F''⟩ := F'.sel [(Str.ofString "heap", .ref hp), (Str.ofString "endpos", .int xs.length t1), (Str.ofString "startpos", .int 0 t2), (Str.ofString "newitem", .ref new.a), (Str.ofString "pos", .int p t3), (Str.ofString "childpos", .int (2 * p + 1 : Nat) t4)] (by with_unfolding_all rfl)
            exact ⟨rfl, _, _, _, _, u', rfl, F'', N'⟩
          | false =>
            skip
            have ec : upChild ys p = 2 * p + 2 := by unfold upChild; rw [hca, hcb]; simp [hlt]
            try refine itb_t rfl ?_
            refine isTrue_and_nil ?_
            refine itb_t rfl ?_
            refine wpAny_execs_cons ?_
            refine wpAny_Assign_Name ?_ (by with_unfolding_all rfl)
            refine qlo ?_
            refine qst ?_; intro h' tk' F' N'
            refine wpAny_execs_nil ?_
            dsimp only
            try refine itb_t rfl ?_
            skip
            rw [ec]
            obtain ⟨u', F''⟩ := F'.sel [(Str.ofString "heap", .ref hp), (Str.ofString "endpos", .int xs.length t1), (Str.ofString "startpos", .int 0 t2), (Str.ofString "newitem", .ref new.a), (Str.ofString "pos", .int p t3), (Str.ofString "childpos", .int (2 * p + 2 : Nat) _)] (by with_unfolding_all rfl)
            exact ⟨rfl, _, _, _, _, u', rfl, F'', N'⟩
        · refine ite_f (by omega) (itb_f rfl ?_)
          have ec : upChild ys p = 2 * p + 1 := by unfold upChild; rw [hca, List.getElem?_eq_none (by omega)]
          refine wpAny_execs_nil ?_
          rw [ec]
          obtain ⟨u', F''⟩ := F'.sel [(Str.ofString "heap", .ref hp), (Str.ofString "endpos", .int xs.length t1), (Str.ofString "startpos", .int 0 t2), (Str.ofString "newitem", .ref new.a), (Str.ofString "pos", .int p t3), (Str.ofString "childpos", .int (2 * p + 1 : Nat) t4)] (by with_unfolding_all rfl)
          exact ⟨rfl, _, _, _, _, u', rfl, F'', N'⟩
      · rintro s' ⟨h3, tk3, t3, t4, u3, rfl, F3, N3⟩
        refine wpAny_execs_cons ?_
        refine wpAny_Assign_Subscript ?_ (by with_unfolding_all rfl)
        refine Subscript_ ?_
        refine qlo ?_
        refine qlo ?_
        dsimp only
        refine item_lstN (N3.get 0 rfl).list (by simpa [hlen] using hz) (v := .ref cc.a) (by simp [hcc]) ?_
        refine qlo ?_
        refine qlo ?_
        refine setItem_lstN (N3.get 0 rfl) (by simpa using hp1) (by simpa [hlen] using hz) ?_
        intro h4 H4 k4
        have F4 := F3.upd (N3.ne 0 rfl) (N3.off 0 rfl) k4
        have N4 := N3.upd 0 rfl k4 H4
        rw [List.set_cons_zero] at N4
        refine wpAny_execs_cons ?_
        refine wpAny_Assign_Name ?_ (by with_unfolding_all rfl)
        refine qlo ?_
        refine qst ?_; intro h' tk' F' N'
        refine wpAny_execs_cons ?_
        refine wpAny_Assign_Name ?_ (by with_unfolding_all rfl)
        refine wpAny_BinOp ?_
        refine wpAny_BinOp ?_
        refine cst_int ?_; intro t' k'
        refine qlo ?_
        dsimp only
        refine mulI (by mul_fits) ?_; intro t' k'
        refine cst_int ?_; intro t' k'
        refine addI ?_; intro t' k'
        refine qst ?_; intro h' tk' F' N'
        refine wpAny_execs_nil ?_
        dsimp only
        obtain ⟨u', F''⟩ := F'.sel [(Str.ofString "heap", .ref hp), (Str.ofString "endpos", .int xs.length _), (Str.ofString "startpos", .int 0 _), (Str.ofString "newitem", .ref new.a), (Str.ofString "pos", .int (upChild ys p) _), (Str.ofString "childpos", .int (2 * (upChild ys p : Int) + 1) _)] (by with_unfolding_all rfl)
        rw [siftUp, dif_pos hc, hcc] at e
        refine ⟨(ys.set p cc).length - upChild ys p, by rw [List.length_set]; have := upChild_le ys p; omega, ys.set p cc, upChild ys p, _, _, _, _, _, _, u', rfl, rfl, e, by simpa using hcl, by simpa using hlen, fun y hy => ?_, F'', by rw [refs_set]; exact N'⟩
        rcases List.mem_or_eq_of_mem_set hy with q | rfl
        · exact hmem y q
        · exact hmem _ (List.mem_of_getElem? hcc)
    · refine ite_f (by omega) ?_
      rw [siftUp, dif_neg hc] at e
      refine wpAny_execs_cons ?_
      refine wpAny_Assign_Subscript ?_ (by with_unfolding_all rfl)
      refine qlo ?_
      refine qlo ?_
      refine qlo ?_
      dsimp only
      refine setItem_lstN (N2.get 0 rfl) (by simpa using hp1) (by simpa [hlen] using hz) ?_
      intro h3 H3 k3
      have F3 := F2.upd (N2.ne 0 rfl) (N2.off 0 rfl) k3
      have N3 := N2.upd 0 rfl k3 H3
      rw [List.set_cons_zero] at N3
      refine wpAny_execs_cons ?_
      refine wpAny_Expr ?_ (by with_unfolding_all rfl) (by with_unfolding_all rfl)
      refine Call_ ?_ (by with_unfolding_all rfl)
      refine qgl (gn_siftdown _) ?_
      refine qfn (kp_siftdown _) ?_
      refine args_cons ?_ (by with_unfolding_all rfl)
      refine qlo ?_
      refine args_cons ?_ (by with_unfolding_all rfl)
      refine qlo ?_
      refine args_cons ?_ (by with_unfolding_all rfl)
      refine qlo ?_
      refine args_nil ?_
      refine ⟨Fm.keep (by assumption), ?_⟩
      dsimp only
      refine siftdown_spec O' F3.keep (N3.off 0 rfl) (R.deeper (n := 3)).less (xs := ys.set p new) (pos := p) (new := new) (by rw [refs_set]; exact H3) (by simpa [hlen] using hz) (fun i hi => F3.keep _ _ (hP' _ ?_)) (by simp [hp1]) ?_
      · rcases List.mem_or_eq_of_mem_set hi with q | rfl
        · exact hmem _ q
        · exact List.mem_of_getElem? hpos
      · intro h4 tk4 k4 H4
        refine wpAny_execs_nil ?_
        dsimp only
        exact h _ _ (keeps_of (F3.after k4 (by simpa using N3.off 0 rfl) (by simpa using (Ne.symm (N3.ne 0 rfl))))) (by rw [← e]; exact H4)
end
end
/-! HeapQ -/
section
theorem Pairs.of {hp : Addr} {vs : List Value} {h : Heap} {xs : List Itm} (hP : Pairs h xs) (hl : Has h hp (isLst vs)) : Pairs (hideAll h [hp]) xs := fun i hi => hideAll_get _ (hP i hi) (by
  intro q
  obtain ⟨o, ho, n, rfl⟩ := hl
  have := hP i hi
  rw [List.mem_singleton.mp q, ho] at this
  have e := congrArg Obj.cls (Option.some.inj this)
  exact absurd (Value.type.inj e) (by decide))
def hpush (xs : List Itm) (it : Itm) : List Itm := siftDown it (xs ++ [it]) xs.length
/-- what is left, when the last entry was taken off -/
def hrest (ys : List Itm) (last : Itm) : List Itm := if ys = [] then [] else siftUp last (ys.set 0 last) 0
def hfirst (ys : List Itm) (last : Itm) : Itm := ys.head?.getD last
section
variable {prog : Program} {w : World} {A : Around} {E : Value → Shared → Prop} {s : Shared} {hT : Heap} {mg mb : Str → Option Value}
theorem heappush_spec {hp : Addr} {xs : List Itm} {it : Itm} {Q : Value → Shared → Prop} (O : Ok w mg mb hT) (kT : Sub hT s.heap) (hW : hT.get? hp = none) (R : Room A 4)
    (hl : Has s.heap hp (isLst (refs xs))) (hz : xs.length < sizeLine) (hP : Pairs s.heap xs) (hit : s.heap.get? it.a = some (pairObj it))
    (h : ∀ h' tk', Keeps [hp] s.heap h' → Has h' hp (isLst (refs (hpush xs it))) → Q .none { s with heap := h', toks := tk' }) :
    wpAny (model prog w) A (call (.ref 143) [.ref hp, .ref it.a]) Q E s := by
  have hz' : sizeLine ≤ 2 ^ 24 := by decide
  refine enter [(Str.ofString "item", .ref it.a), (Str.ofString "heap", .ref hp)].reverse [hp] [(hp, isLst (refs xs))] O kT (by simpa using hW) rfl rfl R.depth (by simpa using hl) (by simp) rfl (locs rfl) ?_
  intro L h₁ tk O' F N
  rw [List.reverse_reverse] at F
  have hP' := (show Pairs s.heap (xs ++ [it]) from fun i hi => (List.mem_append.mp hi).elim (hP i) fun q => (List.mem_singleton.mp q) ▸ hit).of hl
  refine wpAny_execs_cons ?_
  refine wpAny_Expr ?_ (by with_unfolding_all rfl) (by with_unfolding_all rfl)
  refine callLst PySem.F.slot_list_append PySem.F.type_list_append ?_ (by with_unfolding_all rfl) (by with_unfolding_all rfl) (by with_unfolding_all rfl)
  refine qlo ?_
  refine ⟨_, _, rfl, Led.get (by assumption) 0 (by with_unfolding_all rfl), ?_⟩
  refine args_cons ?_ (by with_unfolding_all rfl)
  refine qlo ?_
  refine args_nil ?_
  dsimp only
  try refine ⟨_, _, rfl, N.get 0 rfl, ?_⟩
  skip
  refine append_lst (N.get 0 rfl) (by simp; omega) ?_
  intro h2 H2 k2
  have F2 := F.upd (N.ne 0 rfl) (N.off 0 rfl) k2
  have N2 := N.upd 0 rfl k2 H2
  rw [List.set_cons_zero] at N2
  refine wpAny_execs_cons ?_
  refine wpAny_Expr ?_ (by with_unfolding_all rfl) (by with_unfolding_all rfl)
  refine Call_ ?_ (by with_unfolding_all rfl)
  refine qgl (gn_siftdown _) ?_
  refine qfn (kp_siftdown _) ?_
  refine args_cons ?_ (by with_unfolding_all rfl)
  refine qlo ?_
  refine args_cons ?_ (by with_unfolding_all rfl)
  refine cst_int ?_; intro t' k'
  refine args_cons ?_ (by with_unfolding_all rfl)
  refine wpAny_BinOp ?_
  refine Call_ ?_ (by with_unfolding_all rfl)
  refine qbl (gn_len _) boot_len ?_
  refine callWith_builtin1 ?_ (by with_unfolding_all rfl) (by with_unfolding_all rfl)
  refine args_cons ?_ (by with_unfolding_all rfl)
  refine qlo ?_
  refine args_nil ?_
  dsimp only
  refine lenL (N2.get 0 rfl).list (by simp; omega) ?_; intro t' k'
  refine cst_int ?_; intro t' k'
  refine subI ?_; intro t' k'
  refine args_nil ?_
  refine ⟨Fm.keep (by assumption), ?_⟩
  dsimp only
  rw [show ((refs xs ++ [Value.ref it.a]).length : Int) - 1 = (xs.length : Nat) by simp]
  refine siftdown_spec O' F2.keep (N2.off 0 rfl) (R.deeper (n := 3)).less (xs := xs ++ [it]) (pos := xs.length) (new := it) (by simpa using H2) (by simp; omega) (fun i hi => F2.keep _ _ (hP' _ hi)) (by simp) ?_
  intro h4 tk4 k4 H4
  refine wpAny_execs_nil ?_
  dsimp only
  exact h _ _ (keeps_of (F2.after k4 (by simpa using N2.off 0 rfl) (by simpa using (Ne.symm (N2.ne 0 rfl))))) H4

theorem heappop_spec {hp : Addr} {ys : List Itm} {last : Itm} {Q : Value → Shared → Prop} (O : Ok w mg mb hT) (kT : Sub hT s.heap) (hW : hT.get? hp = none) (R : Room A 6)
    (hl : Has s.heap hp (isLst (refs (ys ++ [last])))) (hz : ys.length < sizeLine) (hP : Pairs s.heap (ys ++ [last]))
    (h : ∀ h' tk', Keeps [hp] s.heap h' → Has h' hp (isLst (refs (hrest ys last))) → Q (.ref (hfirst ys last).a) { s with heap := h', toks := tk' }) :
    wpAny (model prog w) A (call (.ref 150) [.ref hp]) Q E s := by
  have hz' : sizeLine ≤ 2 ^ 24 := by decide
  refine enter [(Str.ofString "heap", .ref hp)].reverse [hp] [(hp, isLst (refs (ys ++ [last])))] O kT (by simpa using hW) rfl rfl R.depth (by simpa using hl) (by simp) rfl (locs rfl) ?_
  intro L h₁ tk O' F N
  rw [List.reverse_reverse] at F
  have hP' := hP.of hl
  refine wpAny_execs_cons ?_
  refine wpAny_Assign_Name ?_ (by with_unfolding_all rfl)
  refine callLst0 PySem.F.slot_list_pop PySem.F.type_list_pop ?_ (by with_unfolding_all rfl)
  refine qlo ?_
  refine ⟨_, _, rfl, Led.get (by assumption) 0 (by with_unfolding_all rfl), ?_⟩
  dsimp only
  try refine ⟨_, _, rfl, N.get 0 rfl, ?_⟩
  skip
  refine pop_lst (vs := refs ys) (v := .ref last.a) (by simpa using N.get 0 rfl) (by simpa using hz) ?_
  intro h2 H2 k2
  have F2 := F.upd (N.ne 0 rfl) (N.off 0 rfl) k2
  have N2 := N.upd 0 rfl k2 H2
  rw [List.set_cons_zero] at N2
  refine qst ?_; intro h' tk' F' N'
  refine wpAny_execs_cons ?_
  refine wpAny_If ?_
  refine isTrue_plain ?_ (by with_unfolding_all rfl)
  refine qlo ?_
  dsimp only
  refine truthy_lst (N'.get 0 rfl) (by simp; omega) fun tk3 => ?_
  dsimp only
  by_cases hy : ys = []
  · subst hy
    refine ite_f (by simp) ?_
    refine wpAny_execs_nil ?_
    refine wpAny_execs_cons ?_
    refine wpAny_Return_some ?_
    refine qlo ?_
    dsimp only
    exact h _ _ (keeps_of F') (N'.get 0 rfl)
  · refine ite_t (by simpa using hy) ?_
    obtain ⟨y0, yr, rfl⟩ : ∃ y0 yr, ys = y0 :: yr := by cases ys with | nil => exact absurd rfl hy | cons a b => exact ⟨a, b, rfl⟩
    refine wpAny_execs_cons ?_
    refine wpAny_Assign_Name ?_ (by with_unfolding_all rfl)
    refine Subscript_ ?_
    refine qlo ?_
    refine cst_int ?_; intro t' k'
    dsimp only
    refine item_lst (N'.get 0 rfl).list (by decide) (by simp at hz ⊢; omega) (v := .ref y0.a) (by simp) ?_
    refine qst ?_; intro h' tk' F' N'
    refine wpAny_execs_cons ?_
    refine wpAny_Assign_Subscript ?_ (by with_unfolding_all rfl)
    refine qlo ?_
    refine qlo ?_
    refine cst_int ?_; intro t' k'
    dsimp only
    refine setItem_lst (N'.get 0 rfl) (by decide) (by simp) (by simp at hz ⊢; omega) ?_
    intro h4 H4 k4
    have F4 := F'.upd (N'.ne 0 rfl) (N'.off 0 rfl) k4
    have N4 := N'.upd 0 rfl k4 H4
    rw [List.set_cons_zero] at N4
    refine wpAny_execs_cons ?_
    refine wpAny_Expr ?_ (by with_unfolding_all rfl) (by with_unfolding_all rfl)
    refine Call_ ?_ (by with_unfolding_all rfl)
    refine qgl (gn_siftup _) ?_
    refine qfn (kp_siftup _) ?_
    refine args_cons ?_ (by with_unfolding_all rfl)
    refine qlo ?_
    refine args_cons ?_ (by with_unfolding_all rfl)
    refine cst_int ?_; intro t' k'
    refine args_nil ?_
    refine ⟨Fm.keep (by assumption), ?_⟩
    dsimp only
    refine siftup_spec O' F4.keep (N4.off 0 rfl) (R.deeper (n := 5)).less (xs := last :: yr) (new := last) (by simpa using H4) (by simp at hz ⊢; omega) (fun i hi => F4.keep _ _ (hP' _ ?_)) (by simp) ?_
    · rcases List.mem_cons.mp hi with rfl | q
      · simp
      · simp [q]
    · intro h5 tk5 k5 H5
      have F5 := F4.after k5 (by simpa using N4.off 0 rfl) (by simpa using (Ne.symm (N4.ne 0 rfl)))
      refine wpAny_execs_cons ?_
      refine wpAny_Return_some ?_
      refine qlo ?_
      dsimp only
      exact h _ _ (keeps_of F5) (by simpa [hrest] using H5)
end
end
/-! Path1 -/
section
theorem kind_issub_nested : builtinKind "issubclass.nested" = none := by decide +kernel
theorem plain_issub_nested : plainId "issubclass.nested" = true := by decide +kernel
theorem args_issub_nested (a b c : Value) : argsOk "issubclass.nested" ⟨[a, b, c], []⟩ := by unfold argsOk; kernel_rfl
section
variable {prog : Program} {w : World} {A : Around} {E : Value → Shared → Prop} {s : Shared}
theorem issub_nested_str {k : Value} {dep : Int} {tk : Tok} {Q : PySem.Fin → Shared → Prop} (hk : k = .int dep tk) (hq : Q (.done (.ret (.bool true))) s) :
    wpAny (model prog w) A (Builtin.«issubclass.nested» ⟨[.type "str", .type "str", k], []⟩) Q E s := by
  subst hk
  have hm : (Value.type "type" == Value.type "type") = true := by decide
  have hself : isSubtype (.type "str") (.type "str") = pure true := F.sub_str_str
  repeat (any_goals (first | assumption | (rw [if_pos hm]) | (rw [hself]) | wp_step))
theorem issub_nested_tup {tp : Addr} {v : Value} {Q : PySem.Fin → Shared → Prop} (ht : s.heap.get? tp = some { cls := .type "tuple", data := .seq #[.type "str", v] }) (hq : Q (.done (.ret (.bool true))) s) :
    wpAny (model prog w) A (Builtin.«issubclass.nested» ⟨[.type "str", .ref tp, rawInt 0], []⟩) Q E s := by
  have hT : s.TypeIs (.ref tp) "tuple" := ⟨_, ht, rfl⟩
  have hm : (Value.type "tuple" == Value.type "type") = false := by decide
  have hm2 : (Value.type "tuple" == Value.type "types.UnionType") = false := by decide
  unfold Builtin.«issubclass.nested»
  refine wpAny_bind (wpAny_typeOf hT ?_)
  rw [if_neg (by rw [hm]; exact Bool.false_ne_true)]
  unfold Builtin.Builtins.unionMembers
  refine wpAny_bind (wpAny_bind (wpAny_typeOf hT ?_))
  rw [if_neg (by rw [hm2]; exact Bool.false_ne_true)]
  refine wpAny_pure ?_
  refine wpAny_bind (wpAny_isInstance hT isSubtype_tuple_tuple ?_)
  rw [if_pos rfl]
  dsimp only
  rw [if_neg (by decide)]
  refine wpAny_bind (wpAny_seqItems ht rfl ?_)
  refine wpAny_bind ?_
  show wpAny _ _ (forIn #[Value.type "str", v] _ _) _ _ _
  rw [← Array.forIn_toList]
  simp only [List.forIn_cons]
  refine wpAny_bind (wpAny_bind ?_)
  refine call_function_entry kind_issub_nested plain_issub_nested F.entry_issubclass_nested (args_issub_nested _ _ _) (issub_nested_str rfl ⟨_, rfl, ?_⟩)
  refine wpAny_bind (wpAny_truthy_bool ?_)
  rw [if_pos rfl]
  exact wpAny_bind (wpAny_pure (wpAny_pure (wpAny_pure (wpAny_pure hq))))
theorem call_issub_str {tp : Addr} {v : Value} {Q : Value → Shared → Prop} (ht : s.heap.get? tp = some { cls := .type "tuple", data := .seq #[.type "str", v] }) (hq : Q (.bool true) s) :
    wpAny (model prog w) A (call (.builtin "issubclass") [.type "str", .ref tp]) Q E s :=
  call_issubclass (S := fun A R s => s.heap.get? tp = some { cls := .type "tuple", data := .seq #[.type "str", v] } ∧ R (.ok (.ret (.bool true))) s)
    (fun _ _ _ _ _ hs => issubclass_outer (issub_nested_tup hs.1 hs.2)) ⟨ht, hq⟩

theorem fspath_spec {hT : Heap} {mg mb : Str → Option Value} {x : Str} {t : Tok} {Q : Value → Shared → Prop} (O : Ok w mg mb hT) (kT : Sub hT s.heap) (R : Room A 1)
    (h : ∀ h' tk', Sub s.heap h' → Q (.str x t) { s with heap := h', toks := tk' }) :
    wpAny (model prog w) A (call (.ref 94) [.str x t]) Q E s := by
  refine enter [(Str.ofString "path", .str x t)].reverse [] [] O kT (by simp) rfl rfl R.depth (by simp) (by simp) rfl (locs rfl) ?_
  intro L h₁ tk O' F N
  rw [List.reverse_reverse] at F
  refine wpAny_execs_cons ?_
  refine wpAny_Assign_Name ?_ (by with_unfolding_all rfl)
  refine Call_ ?_ (by with_unfolding_all rfl)
  refine qbl (gn_type _) boot_type ?_
  refine Pv.callWith_type1 ?_ (by with_unfolding_all rfl) (by with_unfolding_all rfl)
  refine args_cons ?_ (by with_unfolding_all rfl)
  refine qlo ?_
  refine args_nil ?_
  dsimp only
  refine call_type_of (typeIs_str _ x t) (by decide) ?_
  refine qst ?_; intro h' tk' F' N'
  refine wpAny_execs_cons ?_
  refine wpAny_If ?_
  refine isTrue_plain ?_ (by with_unfolding_all rfl)
  refine Call_ ?_ (by with_unfolding_all rfl)
  refine qbl (gn_issubclass _) boot_issub ?_
  refine callWith_builtin1 ?_ (by with_unfolding_all rfl) (by with_unfolding_all rfl)
  refine args_cons ?_ (by with_unfolding_all rfl)
  refine qlo ?_
  refine args_cons ?_ (by with_unfolding_all rfl)
  refine Tuple_ ?_
  refine args_cons ?_ (by with_unfolding_all rfl)
  refine qbl (gn_str _) boot_str ?_
  refine args_cons ?_ (by with_unfolding_all rfl)
  refine qbl (gn_bytes _) boot_bytes ?_
  refine args_nil ?_
  refine newTup (by assumption) (by assumption) (by with_unfolding_all exact Nat.le_of_ble_eq_true rfl) ?_; intro a' h' F' N'
  refine args_nil ?_
  dsimp only
  refine call_issub_str (v := .type "bytes") (N'.get 0 rfl).tup ?_
  refine wpAny_truthy_bool ?_
  refine itb_t rfl ?_
  refine wpAny_execs_cons ?_
  refine wpAny_Return_some ?_
  refine qlo ?_
  dsimp only
  try refine itb_t rfl ?_
  skip
  exact h _ _ (keeps_of F').sub
end
end
/-! Rules2 -/
section
def SliceQ (o vl vu : Value) (Q : Value → Shared → Prop) (s₃ : Shared) : Prop :=
  ∃ x t l u, o = .str x t ∧ vl = partValue l ∧ vu = partValue u ∧ x.length ≤ sizeLine ∧ ∀ h' t' k, Sub s₃.heap h' → Q (.str (Txt.slice x (l.map (·.1)) (u.map (·.1))) t') { s₃ with heap := h', toks := k }
theorem sl_ns {s : Shared} {x : Str} {t u : Tok} {j : Int} {Q : Value → Shared → Prop} (hz : x.length ≤ sizeLine) (h : ∀ h' t' k, Sub s.heap h' → Q (.str (Txt.slice x none (some j)) t') { s with heap := h', toks := k }) : SliceQ (.str x t) .none (.int j u) Q s :=
  ⟨x, t, none, some (j, u), rfl, rfl, rfl, hz, h⟩
theorem sl_sn {s : Shared} {x : Str} {t u : Tok} {j : Int} {Q : Value → Shared → Prop} (hz : x.length ≤ sizeLine) (h : ∀ h' t' k, Sub s.heap h' → Q (.str (Txt.slice x (some j) none) t') { s with heap := h', toks := k }) : SliceQ (.str x t) (.int j u) .none Q s :=
  ⟨x, t, some (j, u), none, rfl, rfl, rfl, hz, h⟩
theorem sl_ss {s : Shared} {x : Str} {t u v : Tok} {i j : Int} {Q : Value → Shared → Prop} (hz : x.length ≤ sizeLine) (h : ∀ h' t' k, Sub s.heap h' → Q (.str (Txt.slice x (some i) (some j)) t') { s with heap := h', toks := k }) : SliceQ (.str x t) (.int i u) (.int j v) Q s :=
  ⟨x, t, some (i, u), some (j, v), rfl, rfl, rfl, hz, h⟩
section
variable {prog : Program} {w : World} {A : Around} {E : Value → Shared → Prop} {s : Shared} {env : Env}
/-- a cut of a text -/
theorem sub_slice_str {value : Expr} {lower upper : Option Expr} {p pos : Pos} {Q : Value → Shared → Prop}
    (h : wpAny (model prog w) A (eval value env) (fun o s₁ => wpAny (model prog w) A (evalPart lower env) (fun vl s₂ => wpAny (model prog w) A (evalPart upper env) (fun vu s₃ => SliceQ o vl vu Q s₃) E s₂) E s₁) E s)
    (ht : ∀ o r, letTemporaryGo value o r = pure ()) :
    wpAny (model prog w) A (eval (.Subscript value (.Slice lower upper none p) pos) env) Q E s := by
  refine wpAny_Subscript_str_slice (wpAny_mono h (fun o s₁ h₁ => wpAny_mono h₁ (fun vl s₂ h₂ => wpAny_mono h₂ (fun vu s₃ h₃ => ?_) fun _ _ e => e) fun _ _ e => e) fun _ _ e => e) ht
  obtain ⟨x, t, l, u, rfl, rfl, rfl, hz, hq⟩ := h₃
  refine ⟨x, t, l, u, rfl, rfl, rfl, ?_⟩
  exact post_val_or_str ⟨Nat.le_trans (Txt.slice_le x _ _) hz, fun t' k => hq _ t' k (sub_push _ _)⟩
theorem part_none {Q : Value → Shared → Prop} (h : Q .none s) : wpAny (model prog w) A (evalPart none env) Q E s := wpAny_pure h
theorem part_some {e : Expr} {Q : Value → Shared → Prop} (h : wpAny (model prog w) A (eval e env) Q E s) : wpAny (model prog w) A (evalPart (some e) env) Q E s := h
/-- + of two texts -/
theorem add_txt {x y : Str} {t u : Tok} {Q : Value → Shared → Prop} (hz : x.length + y.length ≤ sizeLine) (h : ∀ t' k, Q (.str (x ++ y) t') { s with toks := k }) : wpAny (model prog w) A (binaryOp .Add (.str x t) (.str y u)) Q E s := SB.add h hz
theorem iadd_txt {x y : Str} {t u : Tok} {Q : Value → Shared → Prop} (hz : x.length + y.length ≤ sizeLine) (h : ∀ t' k, Q (.str (x ++ y) t') { s with toks := k }) : wpAny (model prog w) A (inplaceOp .Add (.str x t) (.str y u)) Q E s := SB.iadd h hz
end
end
/-! Path2 -/
section
abbrev S (x : String) : Str := Str.ofString x
section
variable {prog : Program} {w : World} {A : Around} {E : Value → Shared → Prop} {s : Shared} {hT : Heap} {mg mb : Str → Option Value}
theorem getsep_spec {x : Str} {t : Tok} {Q : Value → Shared → Prop} (O : Ok w mg mb hT) (kT : Sub hT s.heap) (R : Room A 1)
    (h : ∀ h' tk' t', Sub s.heap h' → Q (.str (Str.ofString "/") t') { s with heap := h', toks := tk' }) :
    wpAny (model prog w) A (call (.ref 108) [.str x t]) Q E s := by
  refine enter [(Str.ofString "path", .str x t)].reverse [] [] O kT (by simp) rfl rfl R.depth (by simp) (by simp) rfl (locs rfl) ?_
  intro L h₁ tk O' F N
  rw [List.reverse_reverse] at F
  refine wpAny_execs_cons ?_
  refine wpAny_If ?_
  refine isTrue_plain ?_ (by with_unfolding_all rfl)
  refine Call_ ?_ (by with_unfolding_all rfl)
  refine qbl (gn_isinstance _) boot_isinstance ?_
  refine callWith_builtin1 ?_ (by with_unfolding_all rfl) (by with_unfolding_all rfl)
  refine args_cons ?_ (by with_unfolding_all rfl)
  refine qlo ?_
  refine args_cons ?_ (by with_unfolding_all rfl)
  refine qbl (gn_bytes _) boot_bytes ?_
  refine args_nil ?_
  refine isi_bytes ?_; intro k'
  refine wpAny_truthy_bool ?_
  refine itb_f rfl ?_
  refine wpAny_execs_cons ?_
  refine wpAny_Return_some ?_
  refine cst_str ?_; intro t' k'
  dsimp only
  try refine itb_f rfl ?_
  skip
  exact h _ _ _ (keeps_of F).sub

def splitF (p : Str) : Str × Str :=
  if ((Txt.slice p none (some 1)).cps.toList != (Str.ofString "/").cps.toList) = true then (Str.ofString "", p)
  else if (((Txt.slice p (some 1) (some 2)).cps.toList != (Str.ofString "/").cps.toList) || ((Txt.slice p (some 2) (some 3)).cps.toList == (Str.ofString "/").cps.toList)) = true then (Str.ofString "/", Txt.slice p (some 1) none)
  else (Txt.slice p none (some 2), Txt.slice p (some 2) none)
theorem splitroot_spec {p : Str} {t : Tok} {Q : Value → Shared → Prop} (O : Ok w mg mb hT) (kT : Sub hT s.heap) (R : Room A 2) (hz : p.length ≤ sizeLine)
    (h : ∀ h' tk' a t1 t2 t3, Sub s.heap h' → h'.get? a = some { cls := .type "tuple", data := .seq #[.str (Str.ofString "") t1, .str (splitF p).1 t2, .str (splitF p).2 t3] } → Q (.ref a) { s with heap := h', toks := tk' }) :
    wpAny (model prog w) A (call (.ref 122) [.str p t]) Q E s := by
  refine enter [(Str.ofString "p", .str p t)].reverse [] [] O kT (by simp) rfl rfl R.depth (by simp) (by simp) rfl (locs rfl) ?_
  intro L h₁ tk O' F N
  rw [List.reverse_reverse] at F
  refine wpAny_execs_cons ?_
  refine wpAny_Assign_Name ?_ (by with_unfolding_all rfl)
  refine Call_ ?_ (by with_unfolding_all rfl)
  refine qgl (gn_fspath _) ?_
  refine qfn (kp_fspath _) ?_
  refine args_cons ?_ (by with_unfolding_all rfl)
  refine qlo ?_
  refine args_nil ?_
  refine ⟨Fm.keep (by assumption), ?_⟩
  dsimp only
  refine fspath_spec O' F.keep (R.deeper (n := 1)) ?_
  intro h2 tk2 k2
  have F2 := F.sub k2
  have N2 := N.sub k2
  refine qst ?_; intro h' tk' F' N'
  refine wpAny_execs_cons ?_
  refine wpAny_If ?_
  refine isTrue_plain ?_ (by with_unfolding_all rfl)
  refine Call_ ?_ (by with_unfolding_all rfl)
  refine qbl (gn_isinstance _) boot_isinstance ?_
  refine callWith_builtin1 ?_ (by with_unfolding_all rfl) (by with_unfolding_all rfl)
  refine args_cons ?_ (by with_unfolding_all rfl)
  refine qlo ?_
  refine args_cons ?_ (by with_unfolding_all rfl)
  refine qbl (gn_bytes _) boot_bytes ?_
  refine args_nil ?_
  refine isi_bytes ?_; intro k'
  refine wpAny_truthy_bool ?_
  refine itb_f rfl ?_
  refine wpAny_execs_cons ?_
  refine wpAny_Assign_Name ?_ (by with_unfolding_all rfl)
  refine cst_str ?_; intro t' k'
  refine qst ?_; intro h' tk' F' N'
  refine wpAny_execs_cons ?_
  refine wpAny_Assign_Name ?_ (by with_unfolding_all rfl)
  refine cst_str ?_; intro t' k'
  refine qst ?_; intro h' tk' F' N'
  refine wpAny_execs_nil ?_
  refine wpAny_execs_cons ?_
  refine wpAny_If ?_
  refine wpAny_isTrue_Compare1 ?_ (by with_unfolding_all rfl)
  refine sub_slice_str ?_ (by intro _ _; with_unfolding_all rfl)
  refine qlo ?_
  refine part_none ?_
  refine part_some ?_
  refine cst_int ?_; intro t' k'
  dsimp only
  try refine itb_f rfl ?_
  skip
  refine sl_ns hz ?_
  intro h3 t3 tk3 k3
  have F3 := F'.sub k3
  have N3 := N'.sub k3
  refine qlo ?_
  refine P.ne_str ?_
  refine wpAny_truthy_bool ?_
  dsimp only
  unfold splitF at h
  by_cases c1 : ((Txt.slice p none (some 1)).cps.toList != (Str.ofString "/").cps.toList) = true
  · refine itb_t c1 ?_
    rw [if_pos c1] at h
    refine wpAny_execs_cons ?_
    refine wpAny_Return_some ?_
    refine Tuple_ ?_
    refine args_cons ?_ (by with_unfolding_all rfl)
    refine qlo ?_
    refine args_cons ?_ (by with_unfolding_all rfl)
    refine qlo ?_
    refine args_cons ?_ (by with_unfolding_all rfl)
    refine qlo ?_
    refine args_nil ?_
    refine newTup (by assumption) (by assumption) (by with_unfolding_all exact Nat.le_of_ble_eq_true rfl) ?_; intro a' h' F' N'
    dsimp only
    exact h _ _ _ _ _ _ (keeps_of F').sub (N'.get 0 rfl).tup
  · refine itb_f (by simpa using c1) ?_
    rw [if_neg c1] at h
    refine wpAny_execs_cons ?_
    refine wpAny_If ?_
    refine isTrue_or ?_
    refine wpAny_isTrue_Compare1 ?_ (by with_unfolding_all rfl)
    refine sub_slice_str ?_ (by intro _ _; with_unfolding_all rfl)
    refine qlo ?_
    refine part_some ?_
    refine cst_int ?_; intro t' k'
    refine part_some ?_
    refine cst_int ?_; intro t' k'
    dsimp only
    refine sl_ss hz ?_
    intro h4 t4 tk4 k4
    have F4 := F3.sub k4
    have N4 := N3.sub k4
    refine qlo ?_
    refine P.ne_str ?_
    refine wpAny_truthy_bool ?_
    dsimp only
    have yes : (((Txt.slice p (some 1) (some 2)).cps.toList != (Str.ofString "/").cps.toList) || ((Txt.slice p (some 2) (some 3)).cps.toList == (Str.ofString "/").cps.toList)) = true → True := fun _ => trivial
    by_cases c2 : ((Txt.slice p (some 1) (some 2)).cps.toList != (Str.ofString "/").cps.toList) = true
    · rw [if_pos (by rw [c2]; rfl)] at h
      refine itb_t c2 ?_; try refine itb_t rfl ?_
      refine wpAny_execs_cons ?_
      refine wpAny_Return_some ?_
      refine Tuple_ ?_
      refine args_cons ?_ (by with_unfolding_all rfl)
      refine qlo ?_
      refine args_cons ?_ (by with_unfolding_all rfl)
      refine qlo ?_
      refine args_cons ?_ (by with_unfolding_all rfl)
      refine sub_slice_str ?_ (by intro _ _; with_unfolding_all rfl)
      refine qlo ?_
      refine part_some ?_
      refine cst_int ?_; intro t' k'
      refine part_none ?_
      dsimp only
      refine sl_sn hz ?_
      intro h5 t5 tk5 k5
      have F5 := F4.sub k5
      have N5 := N4.sub k5
      refine args_nil ?_
      refine newTup (by assumption) (by assumption) (by with_unfolding_all exact Nat.le_of_ble_eq_true rfl) ?_; intro a' h' F' N'
      dsimp only
      exact h _ _ _ _ _ _ (keeps_of F').sub (N'.get 0 rfl).tup
    · refine itb_f (by simpa using c2) ?_
      refine isTrue_or ?_
      refine wpAny_isTrue_Compare1 ?_ (by with_unfolding_all rfl)
      refine sub_slice_str ?_ (by intro _ _; with_unfolding_all rfl)
      refine qlo ?_
      refine part_some ?_
      refine cst_int ?_; intro t' k'
      refine part_some ?_
      refine cst_int ?_; intro t' k'
      dsimp only
      refine sl_ss hz ?_
      intro h5 t5 tk5 k5
      have F5 := F4.sub k5
      have N5 := N4.sub k5
      refine qlo ?_
      refine P.eq_str ?_
      refine wpAny_truthy_bool ?_
      dsimp only
      have c2' : ((Txt.slice p (some 1) (some 2)).cps.toList != (Str.ofString "/").cps.toList) = false := by simpa using c2
      by_cases c3 : ((Txt.slice p (some 2) (some 3)).cps.toList == (Str.ofString "/").cps.toList) = true
      · rw [if_pos (by rw [c2', c3]; rfl)] at h
        refine itb_t c3 ?_; try refine itb_t rfl ?_
        refine wpAny_execs_cons ?_
        refine wpAny_Return_some ?_
        refine Tuple_ ?_
        refine args_cons ?_ (by with_unfolding_all rfl)
        refine qlo ?_
        refine args_cons ?_ (by with_unfolding_all rfl)
        refine qlo ?_
        refine args_cons ?_ (by with_unfolding_all rfl)
        refine sub_slice_str ?_ (by intro _ _; with_unfolding_all rfl)
        refine qlo ?_
        refine part_some ?_
        refine cst_int ?_; intro t' k'
        refine part_none ?_
        dsimp only
        refine sl_sn hz ?_
        intro h6 t6 tk6 k6
        have F6 := F5.sub k6
        have N6 := N5.sub k6
        refine args_nil ?_
        refine newTup (by assumption) (by assumption) (by with_unfolding_all exact Nat.le_of_ble_eq_true rfl) ?_; intro a' h' F' N'
        dsimp only
        exact h _ _ _ _ _ _ (keeps_of F').sub (N'.get 0 rfl).tup
      · have c3' : ((Txt.slice p (some 2) (some 3)).cps.toList == (Str.ofString "/").cps.toList) = false := by simpa using c3
        rw [if_neg (by rw [c2', c3']; decide)] at h
        refine itb_f c3' ?_
        refine isTrue_or_nil ?_
        refine itb_f rfl ?_
        refine wpAny_execs_cons ?_
        refine wpAny_Return_some ?_
        refine Tuple_ ?_
        refine args_cons ?_ (by with_unfolding_all rfl)
        refine qlo ?_
        refine args_cons ?_ (by with_unfolding_all rfl)
        refine sub_slice_str ?_ (by intro _ _; with_unfolding_all rfl)
        refine qlo ?_
        refine part_none ?_
        refine part_some ?_
        refine cst_int ?_; intro t' k'
        dsimp only
        try refine itb_f rfl ?_
        skip
        refine sl_ns hz ?_
        intro h6 t6 tk6 k6
        have F6 := F5.sub k6
        have N6 := N5.sub k6
        refine args_cons ?_ (by with_unfolding_all rfl)
        refine sub_slice_str ?_ (by intro _ _; with_unfolding_all rfl)
        refine qlo ?_
        refine part_some ?_
        refine cst_int ?_; intro t' k'
        refine part_none ?_
        dsimp only
        refine sl_sn hz ?_
        intro h7 t7 tk7 k7
        have F7 := F6.sub k7
        have N7 := N6.sub k7
        refine args_nil ?_
        refine newTup (by assumption) (by assumption) (by with_unfolding_all exact Nat.le_of_ble_eq_true rfl) ?_; intro a' h' F' N'
        dsimp only
        exact h _ _ _ _ _ _ (keeps_of F').sub (N'.get 0 rfl).tup
end
end
/-! Path3 -/
section
section
variable {prog : Program} {w : World} {A : Around} {E : Value → Shared → Prop} {s : Shared} {hT : Heap} {mg mb : Str → Option Value}
theorem rfindS {x y : Str} {t u : Tok} {Q : Value → Shared → Prop} (h : ∀ t' tk, Q (.int (Txt.rfind x y) t') { s with toks := tk }) : wpAny (model prog w) A (call (.builtin "str.rfind") [.str x t, .str y u]) Q E s := SC.rfind (h _ _)
theorem truthyS {x : Str} {t : Tok} {Q : Bool → Shared → Prop} (hz : x.length ≤ sizeLine) (h : ∀ tk, Q (decide (x.length ≠ 0)) { s with toks := tk }) : wpAny (model prog w) A (truthy (.str x t)) Q E s := by
  have : sizeLine ≤ 2 ^ 24 := by decide
  refine P.truthy_str (by omega) ?_
  have e : ((x.length : Int) != 0) = decide (x.length ≠ 0) := by
    rw [Bool.eq_iff_iff]; simp
  rw [e]
  exact h _
theorem lenS {x : Str} {t : Tok} {Q : Value → Shared → Prop} (hz : x.length ≤ sizeLine) (h : ∀ t' tk, Q (.int x.length t') { s with toks := tk }) : wpAny (model prog w) A (call (.builtin "len") [.str x t]) Q E s := by
  have : sizeLine ≤ 2 ^ 24 := by decide
  exact P.len_str (by omega) (h _ _)
theorem mulS {x : Str} {n : Int} {t u : Tok} {Q : Value → Shared → Prop} (L N : Nat) (hx : x.length ≤ L) (h0 : 0 ≤ n) (hn : n ≤ N) (hN : N ≤ 16777216) (hLN : L * N ≤ 16777216) (h : ∀ t' tk, Q (.str (Txt.mul x n) t') { s with toks := tk }) : wpAny (model prog w) A (binaryOp .Mult (.str x t) (.int n u)) Q E s :=
  SB.mul (mulOk_of L N hx hn (by omega) hN hLN) h
def dirHead (p : Str) : Str := Txt.slice p none (some (Txt.rfind p (Str.ofString "/") + 1))
def dirF (p : Str) : Str :=
  if decide ((dirHead p).length ≠ 0) = true ∧ ((dirHead p).cps.toList != (Txt.mul (Str.ofString "/") (dirHead p).length).cps.toList) = true then Txt.rstripChars (dirHead p) (Str.ofString "/") else dirHead p
theorem dirname_spec {p : Str} {t : Tok} {Q : Value → Shared → Prop} (O : Ok w mg mb hT) (kT : Sub hT s.heap) (R : Room A 2) (hz : p.length ≤ sizeLine)
    (h : ∀ h' tk' t', Sub s.heap h' → Q (.str (dirF p) t') { s with heap := h', toks := tk' }) :
    wpAny (model prog w) A (call (.ref 129) [.str p t]) Q E s := by
  have hz2 : (dirHead p).length ≤ sizeLine := Nat.le_trans (Txt.slice_le p _ _) hz
  refine enter [(Str.ofString "p", .str p t)].reverse [] [] O kT (by simp) rfl rfl R.depth (by simp) (by simp) rfl (locs rfl) ?_
  intro L h₁ tk O' F N
  rw [List.reverse_reverse] at F
  refine wpAny_execs_cons ?_
  refine wpAny_Assign_Name ?_ (by with_unfolding_all rfl)
  refine Call_ ?_ (by with_unfolding_all rfl)
  refine qgl (gn_fspath _) ?_
  refine qfn (kp_fspath _) ?_
  refine args_cons ?_ (by with_unfolding_all rfl)
  refine qlo ?_
  refine args_nil ?_
  refine ⟨Fm.keep (by assumption), ?_⟩
  dsimp only
  refine fspath_spec O' F.keep (R.deeper (n := 1)) ?_
  intro h2 tk2 k2
  have F2 := F.sub k2
  have N2 := N.sub k2
  refine qst ?_; intro h' tk' F' N'
  refine wpAny_execs_cons ?_
  refine wpAny_Assign_Name ?_ (by with_unfolding_all rfl)
  refine Call_ ?_ (by with_unfolding_all rfl)
  refine qgl (gn_get_sep _) ?_
  refine qfn (kp_get_sep _) ?_
  refine args_cons ?_ (by with_unfolding_all rfl)
  refine qlo ?_
  refine args_nil ?_
  refine ⟨Fm.keep (by assumption), ?_⟩
  dsimp only
  refine getsep_spec O' F'.keep (R.deeper (n := 1)) ?_
  intro h3 tk3 t3 k3
  have F3 := F'.sub k3
  have N3 := N'.sub k3
  refine qst ?_; intro h' tk' F' N'
  refine wpAny_execs_cons ?_
  refine wpAny_Assign_Name ?_ (by with_unfolding_all rfl)
  refine wpAny_BinOp ?_
  refine callStr PySem.F.slot_str_rfind PySem.F.type_str_rfind ?_ (by with_unfolding_all rfl) (by with_unfolding_all rfl) (by with_unfolding_all rfl)
  refine qlo ?_
  refine ⟨_, _, rfl, ?_⟩
  refine args_cons ?_ (by with_unfolding_all rfl)
  refine qlo ?_
  refine args_nil ?_
  refine rfindS ?_; intro t' k'
  refine cst_int ?_; intro t' k'
  refine addI ?_; intro t' k'
  refine qst ?_; intro h' tk' F' N'
  refine wpAny_execs_cons ?_
  refine wpAny_Assign_Name ?_ (by with_unfolding_all rfl)
  refine sub_slice_str ?_ (by intro _ _; with_unfolding_all rfl)
  refine qlo ?_
  refine part_none ?_
  refine part_some ?_
  refine qlo ?_
  dsimp only
  refine sl_ns hz ?_
  intro h5 t5 tk5 k5
  have F5 := F'.sub k5
  have N5 := N'.sub k5
  refine qst ?_; intro h' tk' F' N'
  refine wpAny_execs_cons ?_
  refine wpAny_If ?_
  refine isTrue_and ?_
  refine isTrue_plain ?_ (by with_unfolding_all rfl)
  refine qlo ?_
  dsimp only
  rw [show Txt.slice p none (some (Txt.rfind p (Str.ofString "/") + 1)) = dirHead p from rfl] at F' ⊢
  refine truthyS (by walk_at "size") ?_; intro k'
  dsimp only
  unfold dirF at h
  by_cases c1 : (dirHead p).length ≠ 0
  · refine ite_t c1 ?_
    refine isTrue_and ?_
    refine wpAny_isTrue_Compare1 ?_ (by with_unfolding_all rfl)
    refine qlo ?_
    refine wpAny_BinOp ?_
    refine qlo ?_
    refine Call_ ?_ (by with_unfolding_all rfl)
    refine qbl (gn_len _) boot_len ?_
    refine callWith_builtin1 ?_ (by with_unfolding_all rfl) (by with_unfolding_all rfl)
    refine args_cons ?_ (by with_unfolding_all rfl)
    refine qlo ?_
    refine args_nil ?_
    apply lenS hz2
    intro t7 tk7
    dsimp only
    apply mulS 1 16777216 (by decide) (by omega) (by have : sizeLine = 16777216 := rfl; omega) (by decide) (by decide)
    intro t8 tk8
    refine P.ne_str ?_
    refine wpAny_truthy_bool ?_
    dsimp only
    by_cases c2 : ((dirHead p).cps.toList != (Txt.mul (Str.ofString "/") (dirHead p).length).cps.toList) = true
    · rw [if_pos ⟨decide_eq_true c1, c2⟩] at h
      refine itb_t c2 ?_
      refine isTrue_and_nil ?_
      refine itb_t rfl ?_
      refine wpAny_execs_cons ?_
      refine wpAny_Assign_Name ?_ (by with_unfolding_all rfl)
      refine callStr PySem.F.slot_str_rstrip PySem.F.type_str_rstrip ?_ (by with_unfolding_all rfl) (by with_unfolding_all rfl) (by with_unfolding_all rfl)
      refine qlo ?_
      refine ⟨_, _, rfl, ?_⟩
      refine args_cons ?_ (by with_unfolding_all rfl)
      refine qlo ?_
      refine args_nil ?_
      dsimp only
      apply SC.rstripChars (hsz := hz2)
      intro t9 tk9
      refine qst ?_; intro h' tk' F' N'
      refine wpAny_execs_nil ?_
      refine wpAny_execs_cons ?_
      refine wpAny_Return_some ?_
      refine qlo ?_
      dsimp only
      exact h _ _ _ (keeps_of F').sub
    · rw [if_neg (fun q => c2 q.2)] at h
      refine itb_f (by simpa using c2) ?_; try refine itb_f rfl ?_
      refine wpAny_execs_nil ?_
      refine wpAny_execs_cons ?_
      refine wpAny_Return_some ?_
      refine qlo ?_
      dsimp only
      exact h _ _ _ (keeps_of F').sub
  · rw [if_neg (fun q => c1 (of_decide_eq_true q.1))] at h
    refine ite_f c1 ?_; try refine itb_f rfl ?_
    refine wpAny_execs_nil ?_
    refine wpAny_execs_cons ?_
    refine wpAny_Return_some ?_
    refine qlo ?_
    dsimp only
    exact h _ _ _ (keeps_of F').sub
end
end
/-! Join -/
section
/-- the call of a def with a starred parameter -/
theorem enterV {prog : Program} {w : World} {A : Around} {E : Value → Shared → Prop} {s : Shared} {hT : Heap} {mg mb : Str → Option Value} {fa : Addr} {fname qual : Str} {params : Arguments} {body : List Stmt} {scope : Scope} {dV kV doc pm cdv ct oc : Value} {an od : Option Addr} {osl : Array (Option Value)}
    {args : List Value} {Q : Value → Shared → Prop} (binds : List (Str × Value)) (va : Str) (rest : List Value) (O : Ok w mg mb hT) (kT : Sub hT s.heap)
    (ho : (KK w).lookup fa = some ⟨oc, od, .func (fnOf fname qual params body scope dV kV doc pm an cdv ct), osl⟩) (hcd : codeIn (KK w) cdv qual = true) (hroom : A.depth < recursionLimit)
    (hbind : bindArgs (fnOf fname qual params body scope dV kV doc pm an cdv ct) ⟨args, []⟩ = (newTuple rest >>= fun v => pure (binds ++ [(va, v)]))) (hloc : ∀ v, ∀ x ∈ binds ++ [(va, v)], scope.names.lookup x.1 = some .local) (hz : rest.length ≤ sizeLine)
    (h : ∀ L p g h₁ tk, Ok w mg mb g → Sub s.heap g → g.get? p = some { cls := .type "tuple", data := .seq rest.toArray } → Fm g L h₁ (ov ((va, .ref p) :: binds.reverse) fun _ => none) →
      wpAny (model prog w) (A.deeper (envOf qual scope L fa cdv)) (execs body (envOf qual scope L fa cdv)) (fun fl s' => Q (match fl with | .ret v => v | _ => .none) s') (fun _ _ => False) { s with heap := h₁, toks := tk })
    (hco : scope.isCoroutine = false := by rfl) (hgen : scope.isGenerator = false := by rfl) (hk : scope.kind = .function := by rfl) (hcell : ∀ x ∈ scope.names, x.2 ≠ .cell := by decide) :
    wpAny (model prog w) A (call (.ref fa) args) Q E s := by
  have OS := O.keeps kT
  refine wpAny_call ?_
  refine codeAny_call_function (fd := fnOf fname qual params body scope dV kV doc pm an cdv ct) hroom (OS.X _ _ ho) rfl hco hgen rfl (codeRec_of OS.X hcd) ?_
  rw [hbind]
  refine wpAny_bind (wpAny_newObj_type (wpAny_pure ?_) (by show rest.toArray.size ≤ sizeLine; rw [List.size_toArray]; exact hz))
  refine wpAny_newFunctionEnv hcell (hloc _) (fun h₁ hns hsb => ⟨(OS.nolimit.keeps (sub_push _ _)).fresh _ hsb, codeAny_func ?_⟩) hk
  have hk₁ : Sub (s.heap.push { cls := .type "tuple", data := .seq rest.toArray }) h₁ := fun b o e => hsb.extBut b o (Nat.ne_of_lt (Heap.lt_size e)) (Heap.get?_push_of_some _ e)
  have em : (fun x => (binds ++ [(va, Value.ref s.heap.objs.size)]).reverse.lookup x) = ov ((va, Value.ref s.heap.objs.size) :: binds.reverse) fun _ => none := by
    funext y; unfold ov; rw [List.reverse_append]; simp only [List.reverse_cons, List.reverse_nil, List.nil_append, List.singleton_append]
    cases List.lookup y ((va, Value.ref s.heap.objs.size) :: binds.reverse) <;> rfl
  rw [em] at hns
  refine wpAny_mono (h _ s.heap.objs.size (s.heap.push { cls := .type "tuple", data := .seq rest.toArray }) h₁ _ (OS.keeps (sub_push _ _)) (sub_push _ _) (Heap.get?_push_size _ rfl) ⟨hns, hk₁, get_none (Sub.refl _)⟩) (fun fl s' q => q) fun _ _ x => x.elim
end
/-! Loop2 -/
section
/-- the heap frozen anew: what the ledger names no more is kept from now on -/
theorem freeze {g h : Heap} {L : Addr} {m : Str → Option Value} (new : Lg) {led : Lg} (F : Fm g L h m) (N : Led g L h (new ++ led)) :
    ∃ g', Fm g' L h m ∧ Led g' L h led ∧ Sub g g' ∧ (∀ p ∈ new, Has g' p.1 p.2) := by
  refine ⟨hideAll h (L :: led.map (·.1)), ⟨F.ns, hide_sub, hideAll_none _ (.head _)⟩, ⟨fun p hp => ⟨(N.has p (List.mem_append_right _ hp)).1, hideAll_none _ (.tail _ (List.mem_map_of_mem hp)), (N.has p (List.mem_append_right _ hp)).2.2⟩, ?_⟩, ?_, ?_⟩
  · have := N.nd; rw [List.map_append] at this; exact (List.nodup_append.mp this).2.1
  · refine sub_hide F.keep (fun a ha => ?_)
    rcases List.mem_cons.mp ha with rfl | ha
    · exact F.off
    · obtain ⟨p, hp, rfl⟩ := List.mem_map.mp ha
      exact (N.has p (List.mem_append_right _ hp)).2.1
  · intro p hp
    have hp' := N.has p (List.mem_append_left _ hp)
    obtain ⟨o, ho, hP⟩ := hp'.2.2
    refine ⟨o, hideAll_get _ ho (fun m => ?_), hP⟩
    rcases List.mem_cons.mp m with e | m
    · exact hp'.1 e
    · have := N.nd; rw [List.map_append] at this
      exact (List.nodup_append.mp this).2.2 _ (List.mem_map_of_mem hp) _ m rfl
theorem Led.off' {g h : Heap} {L : Addr} {led : Lg} (N : Led g L h led) {a : Addr} {o : Obj} (ha : g.get? a = some o) : a ∉ led.map (·.1) := by
  intro m
  obtain ⟨p, hp, rfl⟩ := List.mem_map.mp m
  rw [(N.has p hp).2.1] at ha; cases ha
theorem Fm.off' {g h : Heap} {L : Addr} {m : Str → Option Value} (F : Fm g L h m) {a : Addr} {o : Obj} (ha : g.get? a = some o) : a ≠ L := by
  rintro rfl; rw [F.off] at ha; cases ha
theorem Led.notNew {g h : Heap} {L : Addr} {led : Lg} (N : Led g L h led) : h.objs.size ∉ led.map (·.1) := by
  intro m
  obtain ⟨p, hp, e⟩ := List.mem_map.mp m
  obtain ⟨o, ho, _⟩ := (N.has p hp).2.2
  exact absurd (Heap.lt_size ho) (by rw [e]; exact Nat.lt_irrefl _)
/-- a turn's end -/
def TurnEnd (g1 gI : Heap) (L : Addr) (D : List Addr) (P : Heap → List (Str × Value) → Lg → Prop) (s s₃ : Shared) : Prop :=
  ∃ h' tk' ps' u' new led', s₃ = { s with heap := h', toks := tk' } ∧ Fm gI L h' (ov ps' u') ∧ Led gI L h' (new ++ led') ∧ led'.map (·.1) = D ∧ ∀ g2, Sub g1 g2 → (∀ p ∈ new, Has g2 p.1 p.2) → P g2 ps' led'

section
variable {prog : Program} {w : World} {A : Around} {E : Value → Shared → Prop} {s : Shared} {env : Env} {Q : Flow → Shared → Prop} {target : Expr} {body orelse : List Stmt} {L : Addr}
theorem for_fz {I : Addr} {fp : List Addr} {n : Nat} {PV : Nat → Value → Prop} {St : Nat → Heap → Prop}
    (W : Walks prog w A I fp [I] n PV St) {g : Heap} {ps₀ : List (Str × Value)} {u₀ : Str → Option Value} {led₀ : Lg} (P : Nat → Heap → List (Str × Value) → Lg → Prop)
    (F : Fm g L s.heap (ov ps₀ u₀)) (N : Led g L s.heap led₀) (hP : P 0 g ps₀ led₀) (hst : St 0 s.heap)
    (hIg : g.get? I = none) (hIL : I ≠ L) (hID : I ∉ led₀.map (·.1)) (hI : ∀ i h, St i h → ∃ o, h.get? I = some o) (hfp : ∀ b ∈ fp, b ≠ L ∧ b ∉ led₀.map (·.1))
    (turn : ∀ i v h tk g1 gI ps u led, i < n → PV i v → Sub g g1 → Sub g1 gI → P i g1 ps led → led.map (·.1) = led₀.map (·.1) → Fm gI L h (ov ps u) → Led gI L h led →
      wpAny (model prog w) A (assign target env v) (fun _ s₂ => wpAny (model prog w) A (execs body env) (fun f s₃ => match f with
        | .next | .cont => TurnEnd g1 gI L (led₀.map (·.1)) (P (i + 1)) s s₃
        | .brk => Q .next s₃
        | .ret v => Q (.ret v) s₃) (fun _ _ => False) s₂) (fun _ _ => False) { s with heap := h, toks := tk })
    (done : ∀ h tk g1 ps u led, Sub g g1 → P n g1 ps led → led.map (·.1) = led₀.map (·.1) → Fm g1 L h (ov ps u) → Led g1 L h led → wpAny (model prog w) A (execs orelse env) Q (fun _ _ => False) { s with heap := h, toks := tk })
    (hgo : ∀ i v (s : Shared) (Q : Unit → Shared → Prop) (E : Value → Shared → Prop), St i s.heap → Q () s → wpAny (model prog w) A (letOwnedTupleGo target (.ref I) v) Q E s) :
    codeAny (model prog w) A (.forLoop target (.ref I) body orelse env) (fun r s' => match r with | .ok f => Q f s' | .error e => cameBackBy (model prog w) A env E e s') s := by
  generalize hDD : led₀.map (·.1) = D at hID hfp turn done
  refine for_ W (fun i h => ∃ g1 ps u led, Sub g g1 ∧ g1.get? I = none ∧ Fm g1 L h (ov ps u) ∧ Led g1 L h led ∧ led.map (·.1) = D ∧ P i g1 ps led) hst ⟨g, ps₀, u₀, led₀, Sub.refl _, hIg, F, N, hDD, hP⟩ ?_ ?_ ?_ hgo
  · rintro i h h' ⟨g1, ps, u, led, kg, hI1, F, N, hd, hp⟩ k
    refine ⟨g1, ps, u, led, kg, hI1, F.after k (by simpa using hI1) (by simpa using Ne.symm hIL), N.after k (fun p hp q => ?_), hd, hp⟩
    exact hID (by rw [← hd, ← List.mem_singleton.mp q]; exact List.mem_map_of_mem hp)
  · rintro i v h tk hi hv hst' ⟨g1, ps, u, led, kg, hI1, F, N, hd, hp⟩
    have kI : Sub g1 (hideAll h (L :: D)) := sub_hide F.keep (fun a ha => by
      rcases List.mem_cons.mp ha with rfl | ha
      · exact F.off
      · rw [← hd] at ha
        obtain ⟨p, hp, rfl⟩ := List.mem_map.mp ha
        exact (N.has p hp).2.1)
    have F1 : Fm (hideAll h (L :: D)) L h (ov ps u) := ⟨F.ns, hide_sub, hideAll_none _ (.head _)⟩
    have N1 : Led (hideAll h (L :: D)) L h led := ⟨fun p hp => ⟨(N.has p hp).1, hideAll_none _ (.tail _ (by rw [← hd]; exact List.mem_map_of_mem hp)), (N.has p hp).2.2⟩, N.nd⟩
    obtain ⟨oI, hoI⟩ := hI _ _ hst'
    have hIin : (hideAll h (L :: D)).get? I = some oI := hideAll_get _ hoI (by simp [hIL, hID])
    refine wpAny_mono (turn i v h tk g1 _ ps u led hi hv kg kI hp hd F1 N1) (fun _ s₂ h₂ => wpAny_mono h₂ (fun f s₃ h₃ => ?_) fun _ _ x => x) fun _ _ x => x
    have go : TurnEnd g1 (hideAll h (L :: D)) L D (P (i + 1)) s s₃ →
        ∃ h' tk', s₃ = { s with heap := h', toks := tk' } ∧ (∀ b ∈ fp, ∀ o, h.get? b = some o → h'.get? b = some o) ∧ ∃ g1 ps u led, Sub g g1 ∧ g1.get? I = none ∧ Fm g1 L h' (ov ps u) ∧ Led g1 L h' led ∧ led.map (·.1) = D ∧ P (i + 1) g1 ps led := by
      rintro ⟨h', tk', ps', u', new, led', e, F', N', hd', hp'⟩
      refine ⟨h', tk', e, fun b hb o q => F'.keep b o (hideAll_get _ q (fun m => ?_)), hideAll h' (I :: L :: D), ps', u', led', ?_, hideAll_none _ (.head _), ⟨F'.ns, hide_sub, hideAll_none _ (.tail _ (.head _))⟩, ⟨fun p hp => ⟨(N'.has p (List.mem_append_right _ hp)).1, hideAll_none _ (.tail _ (.tail _ (by rw [← hd']; exact List.mem_map_of_mem hp))), (N'.has p (List.mem_append_right _ hp)).2.2⟩, ?_⟩, hd', ?_⟩
      · rcases List.mem_cons.mp m with e | m
        · exact (hfp b hb).1 e
        · exact (hfp b hb).2 m
      · refine kg.trans (sub_hide (kI.trans F'.keep) fun a ha => ?_)
        rcases List.mem_cons.mp ha with rfl | ha
        · exact hI1
        · rcases List.mem_cons.mp ha with rfl | ha
          · exact F.off
          · rw [← hd] at ha
            obtain ⟨p, hp, rfl⟩ := List.mem_map.mp ha
            exact (N.has p hp).2.1
      · have := N'.nd; rw [List.map_append] at this; exact (List.nodup_append.mp this).2.1
      · refine hp' _ (sub_hide (kI.trans F'.keep) fun a ha => ?_) fun p hp => ?_
        · rcases List.mem_cons.mp ha with rfl | ha
          · exact hI1
          · rcases List.mem_cons.mp ha with rfl | ha
            · exact F.off
            · rw [← hd] at ha
              obtain ⟨p, hp, rfl⟩ := List.mem_map.mp ha
              exact (N.has p hp).2.1
        · have q := N'.has p (List.mem_append_left _ hp)
          obtain ⟨o, ho, hPo⟩ := q.2.2
          refine ⟨o, hideAll_get _ ho (fun m => ?_), hPo⟩
          rcases List.mem_cons.mp m with e | m
          · rw [e, hIin] at q; exact nomatch q.2.1
          · rcases List.mem_cons.mp m with e | m
            · exact q.1 e
            · have := N'.nd; rw [List.map_append] at this
              exact (List.nodup_append.mp this).2.2 _ (List.mem_map_of_mem hp) _ (hd' ▸ m) rfl
    cases f with
    | next => exact go h₃
    | cont => exact go h₃
    | brk => exact h₃
    | ret v => exact h₃
  · rintro h tk ⟨g1, ps, u, led, kg, hI1, F, N, hd, hp⟩
    exact done h tk g1 ps u led kg hp hd F N

abbrev ForPost (prog : Program) (w : World) (A : Around) (env : Env) (E : Value → Shared → Prop) (Q : Flow → Shared → Prop) (r : Result) (s' : Shared) : Prop := match r with | .ok f => Q f s' | .error e => cameBackBy (model prog w) A env E e s'
/-- for over a list that is frozen -/
theorem for_list {ax : Addr} {vs : List Value} {g : Heap} {ps₀ : List (Str × Value)} {u₀ : Str → Option Value} {led₀ : Lg} (hh : A.handled = none) (hx : g.IsList ax vs.toArray) (P : Nat → Heap → List (Str × Value) → Lg → Prop)
    (F : Fm g L s.heap (ov ps₀ u₀)) (N : Led g L s.heap led₀) (hP : P 0 g ps₀ led₀)
    (turn : ∀ i v h tk g1 gI ps u led, i < vs.length → vs[i]? = some v → Sub g g1 → Sub g1 gI → P i g1 ps led → led.map (·.1) = led₀.map (·.1) → Fm gI L h (ov ps u) → Led gI L h led →
      wpAny (model prog w) A (assign target env v) (fun _ s₂ => wpAny (model prog w) A (execs body env) (fun f s₃ => match f with
        | .next | .cont => TurnEnd g1 gI L (led₀.map (·.1)) (P (i + 1)) s s₃
        | .brk => Q .next s₃
        | .ret v => Q (.ret v) s₃) (fun _ _ => False) s₂) (fun _ _ => False) { s with heap := h, toks := tk })
    (done : ∀ h tk g1 ps u led, Sub g g1 → P vs.length g1 ps led → led.map (·.1) = led₀.map (·.1) → Fm g1 L h (ov ps u) → Led g1 L h led → wpAny (model prog w) A (execs orelse env) Q (fun _ _ => False) { s with heap := h, toks := tk }) :
    wpAny (model prog w) A (pyIter (.ref ax)) (fun it s₂ => codeAny (model prog w) A (.forLoop target it body orelse env) (ForPost prog w A env E Q) s₂) E s := by
  have hat : ∀ {h h' : Heap}, h.IsList ax vs.toArray → Sub h h' → h'.IsList ax vs.toArray := fun x k => let ⟨o, ho, r⟩ := x; ⟨o, k _ _ ho, r⟩
  have hx' := hat hx F.keep
  have hax : ax ≠ s.heap.objs.size := by obtain ⟨o, ho, _⟩ := hx'; exact Nat.ne_of_lt (Heap.lt_size ho)
  refine wpAny_pyIter_list hx' ?_
  obtain ⟨og, hog, _⟩ := id hx
  refine for_fz (s := { s with heap := _ }) (Walks.list hh s.heap.objs.size ax hax vs.toArray) P (F.sub (sub_push _ _)) (N.sub (sub_push _ _)) hP ⟨⟨_, Heap.get?_push_size _ rfl, rfl, rfl⟩, hat hx' (sub_push _ _)⟩
    (get_none F.keep) (Nat.ne_of_gt F.lt) N.notNew (fun i h st => by obtain ⟨o, ho, _⟩ := st.1; exact ⟨o, ho⟩) (fun b hb => ?_) (fun i v h tk g1 gI ps u led hi hv => turn i v h tk g1 gI ps u led (by simpa using hi) (by simpa using hv)) (fun h tk g1 ps u led k hp => done h tk g1 ps u led k (by simpa using hp)) (fun i v s Q E st q => by obtain ⟨o, ho, hc, _⟩ := st.1; exact go_plain ho hc (by decide) q)
  rcases List.mem_cons.mp hb with rfl | hb
  · exact ⟨Nat.ne_of_gt F.lt, N.notNew⟩
  · rw [List.mem_singleton.mp hb]; exact ⟨F.off' hog, N.off' hog⟩
/-- for over a tuple that is frozen -/
theorem for_tup {ax : Addr} {vs : List Value} {g : Heap} {ps₀ : List (Str × Value)} {u₀ : Str → Option Value} {led₀ : Lg} (hh : A.handled = none) (hx : Has g ax (isTup vs)) (P : Nat → Heap → List (Str × Value) → Lg → Prop)
    (F : Fm g L s.heap (ov ps₀ u₀)) (N : Led g L s.heap led₀) (hP : P 0 g ps₀ led₀)
    (turn : ∀ i v h tk g1 gI ps u led, i < vs.length → vs[i]? = some v → Sub g g1 → Sub g1 gI → P i g1 ps led → led.map (·.1) = led₀.map (·.1) → Fm gI L h (ov ps u) → Led gI L h led →
      wpAny (model prog w) A (assign target env v) (fun _ s₂ => wpAny (model prog w) A (execs body env) (fun f s₃ => match f with
        | .next | .cont => TurnEnd g1 gI L (led₀.map (·.1)) (P (i + 1)) s s₃
        | .brk => Q .next s₃
        | .ret v => Q (.ret v) s₃) (fun _ _ => False) s₂) (fun _ _ => False) { s with heap := h, toks := tk })
    (done : ∀ h tk g1 ps u led, Sub g g1 → P vs.length g1 ps led → led.map (·.1) = led₀.map (·.1) → Fm g1 L h (ov ps u) → Led g1 L h led → wpAny (model prog w) A (execs orelse env) Q (fun _ _ => False) { s with heap := h, toks := tk }) :
    wpAny (model prog w) A (pyIter (.ref ax)) (fun it s₂ => codeAny (model prog w) A (.forLoop target it body orelse env) (ForPost prog w A env E Q) s₂) E s := by
  have hx' := hx.to (fun o e => F.keep _ _ e)
  have hax : ax ≠ s.heap.objs.size := by obtain ⟨o, ho, _⟩ := hx'; exact Nat.ne_of_lt (Heap.lt_size ho)
  have hT : ∀ h, Has h ax (isTup vs) → h.IsTuple ax vs.toArray := fun h q => ⟨_, q.tup, rfl, 0, rfl⟩
  refine wpAny_pyIter_tuple (hT _ hx') ?_
  obtain ⟨og, hog, _⟩ := id hx
  refine for_fz (s := { s with heap := _ }) (Walks.tuple hh s.heap.objs.size ax hax vs.toArray) P (F.sub (sub_push _ _)) (N.sub (sub_push _ _)) hP ⟨⟨_, Heap.get?_push_size _ rfl, rfl, rfl⟩, hT _ (hx'.to fun o e => sub_push _ _ _ _ e)⟩
    (get_none F.keep) (Nat.ne_of_gt F.lt) N.notNew (fun i h st => by obtain ⟨o, ho, _⟩ := st.1; exact ⟨o, ho⟩) (fun b hb => ?_) (fun i v h tk g1 gI ps u led hi hv => turn i v h tk g1 gI ps u led (by simpa using hi) (by simpa using hv)) (fun h tk g1 ps u led k hp => done h tk g1 ps u led k (by simpa using hp)) (fun i v s Q E st q => by obtain ⟨o, ho, hc, _⟩ := st.1; exact go_plain ho hc (by decide) q)
  rcases List.mem_cons.mp hb with rfl | hb
  · exact ⟨Nat.ne_of_gt F.lt, N.notNew⟩
  · rw [List.mem_singleton.mp hb]; exact ⟨F.off' hog, N.off' hog⟩
/-- for over range(n) -/
theorem for_rng {rx : Addr} {n : Nat} {t1 t2 t3 : Tok} {g : Heap} {ps₀ : List (Str × Value)} {u₀ : Str → Option Value} {led₀ : Lg} (hh : A.handled = none) (hn : n ≤ 1000) (hx : s.heap.get? rx = some { cls := .type "range", data := .fields #[.int 0 t1, .int n t2, .int 1 t3] }) (P : Nat → Heap → List (Str × Value) → Lg → Prop)
    (F : Fm g L s.heap (ov ps₀ u₀)) (N : Led g L s.heap led₀) (hP : P 0 g ps₀ led₀)
    (turn : ∀ i t h tk g1 gI ps u led, i < n → Sub g g1 → Sub g1 gI → P i g1 ps led → led.map (·.1) = led₀.map (·.1) → Fm gI L h (ov ps u) → Led gI L h led →
      wpAny (model prog w) A (assign target env (.int (i : Nat) t)) (fun _ s₂ => wpAny (model prog w) A (execs body env) (fun f s₃ => match f with
        | .next | .cont => TurnEnd g1 gI L (led₀.map (·.1)) (P (i + 1)) s s₃
        | .brk => Q .next s₃
        | .ret v => Q (.ret v) s₃) (fun _ _ => False) s₂) (fun _ _ => False) { s with heap := h, toks := tk })
    (done : ∀ h tk g1 ps u led, Sub g g1 → P n g1 ps led → led.map (·.1) = led₀.map (·.1) → Fm g1 L h (ov ps u) → Led g1 L h led → wpAny (model prog w) A (execs orelse env) Q (fun _ _ => False) { s with heap := h, toks := tk }) :
    wpAny (model prog w) A (pyIter (.ref rx)) (fun it s₂ => codeAny (model prog w) A (.forLoop target it body orelse env) (ForPost prog w A env E Q) s₂) E s := by
  have hsz : Builtin.Range.rangeSize 0 (n : Int) 1 = (n : Int) := by unfold Builtin.Range.rangeSize; simp; omega
  refine wpAny_pyIter_range hx (small_one (by decide) (by decide) (by omega) (by omega)) ?_
  refine for_fz (s := { s with heap := _ }) (Walks.range hh s.heap.objs.size 0 1 n) P (F.sub (sub_push _ _)) (N.sub (sub_push _ _)) hP ?_
    (get_none F.keep) (Nat.ne_of_gt F.lt) N.notNew (fun i h st => ⟨_, st⟩) (fun b hb => ?_) (fun i v h tk g1 gI ps u led hi hv => ?_) done (fun i v s Q E st q => go_plain st rfl (by decide) q)
  · show IsRangeIter _ _ _ _ _
    rw [hsz]
    simpa using Heap.get?_push_size _ rfl
  · rw [List.mem_singleton.mp hb]; exact ⟨Nat.ne_of_gt F.lt, N.notNew⟩
  · obtain ⟨t, rfl⟩ := hv
    rw [show (0 : Int) + i * 1 = (i : Int) by omega]
    exact turn i t h tk g1 gI ps u led hi
/-- for over a dict that is frozen, its keys texts -/
theorem for_keys {ax : Addr} {kvs : List (Str × Value)} {g : Heap} {ps₀ : List (Str × Value)} {u₀ : Str → Option Value} {led₀ : Lg} (hh : A.handled = none) (hne : (ax == sysModules) = false) (hx : Has g ax (fun o => o.IsDictOf (strKind prog w) kvs)) (P : Nat → Heap → List (Str × Value) → Lg → Prop)
    (F : Fm g L s.heap (ov ps₀ u₀)) (N : Led g L s.heap led₀) (hP : P 0 g ps₀ led₀)
    (turn : ∀ i k t h tk g1 gI ps u led, i < kvs.length → (kvs.map (·.1))[i]? = some k → Sub g g1 → Sub g1 gI → P i g1 ps led → led.map (·.1) = led₀.map (·.1) → Fm gI L h (ov ps u) → Led gI L h led →
      wpAny (model prog w) A (assign target env (.str k t)) (fun _ s₂ => wpAny (model prog w) A (execs body env) (fun f s₃ => match f with
        | .next | .cont => TurnEnd g1 gI L (led₀.map (·.1)) (P (i + 1)) s s₃
        | .brk => Q .next s₃
        | .ret v => Q (.ret v) s₃) (fun _ _ => False) s₂) (fun _ _ => False) { s with heap := h, toks := tk })
    (done : ∀ h tk g1 ps u led, Sub g g1 → P kvs.length g1 ps led → led.map (·.1) = led₀.map (·.1) → Fm g1 L h (ov ps u) → Led g1 L h led → wpAny (model prog w) A (execs orelse env) Q (fun _ _ => False) { s with heap := h, toks := tk }) :
    wpAny (model prog w) A (pyIter (.ref ax)) (fun it s₂ => codeAny (model prog w) A (.forLoop target it body orelse env) (ForPost prog w A env E Q) s₂) E s := by
  have hx' := hx.to (fun o e => F.keep _ _ e)
  have hax : ax ≠ s.heap.objs.size := by obtain ⟨o, ho, _⟩ := hx'; exact Nat.ne_of_lt (Heap.lt_size ho)
  obtain ⟨ep, hd⟩ := (Heap.dictOf_iff.mpr hx').dictAt
  refine wpAny_pyIter_dict hne hd ?_
  obtain ⟨og, hog, _⟩ := id hx
  refine for_fz (s := { s with heap := _ }) (Walks.dictKeys hh s.heap.objs.size ax hax kvs ep) P (F.sub (sub_push _ _)) (N.sub (sub_push _ _)) hP ⟨⟨_, Heap.get?_push_size _ rfl, rfl, rfl⟩, hd.keep (sub_push _ _)⟩
    (get_none F.keep) (Nat.ne_of_gt F.lt) N.notNew (fun i h st => by obtain ⟨o, ho, _⟩ := st.1; exact ⟨o, ho⟩) (fun b hb => ?_) (fun i v h tk g1 gI ps u led hi hv => ?_) done (fun i v s Q E st q => by obtain ⟨o, ho, hc, _⟩ := st.1; exact go_plain ho hc (by decide) q)
  · rcases List.mem_cons.mp hb with rfl | hb
    · exact ⟨Nat.ne_of_gt F.lt, N.notNew⟩
    · rw [List.mem_singleton.mp hb]; exact ⟨F.off' hog, N.off' hog⟩
  · obtain ⟨k, x, hk, hv⟩ := hv
    obtain ⟨t, rfl⟩ := Value.isStrOf_shape hv
    exact turn i k t h tk g1 gI ps u led hi (by rw [List.getElem?_map, hk]; rfl)
end
end
/-! Auto -/
section
section
variable {prog : Program} {w : World} {A : Around} {E : Value → Shared → Prop} {s : Shared} {hT g : Heap} {L : Addr} {m : Str → Option Value} {led : Lg} {mg mb : Str → Option Value} {x y p : Str} {t u : Tok} {Q : Value → Shared → Prop}
theorem fspath_call (O : Ok w mg mb g) (F : Fm g L s.heap m) (N : Led g L s.heap led) (R : Room A 1)
    (h : ∀ h' tk', Fm g L h' m → Led g L h' led → Q (.str x t) { s with heap := h', toks := tk' }) :
    wpAny (model prog w) A (call (.ref 94) [.str x t]) Q E s := fspath_spec O F.keep R fun h' tk' k => h h' tk' (F.sub k) (N.sub k)
theorem getsep_call (O : Ok w mg mb g) (F : Fm g L s.heap m) (N : Led g L s.heap led) (R : Room A 1)
    (h : ∀ h' tk' t', Fm g L h' m → Led g L h' led → Q (.str (Str.ofString "/") t') { s with heap := h', toks := tk' }) :
    wpAny (model prog w) A (call (.ref 108) [.str x t]) Q E s := getsep_spec O F.keep R fun h' tk' t' k => h h' tk' t' (F.sub k) (N.sub k)
theorem dirname_call (O : Ok w mg mb g) (F : Fm g L s.heap m) (N : Led g L s.heap led) (R : Room A 2) (hz : p.length ≤ sizeLine)
    (h : ∀ h' tk' t', Fm g L h' m → Led g L h' led → Q (.str (dirF p) t') { s with heap := h', toks := tk' }) :
    wpAny (model prog w) A (call (.ref 129) [.str p t]) Q E s := dirname_spec O F.keep R hz fun h' tk' t' k => h h' tk' t' (F.sub k) (N.sub k)
theorem startsS (h : Q (.bool (Txt.startswith x y)) s) : wpAny (model prog w) A (call (.builtin "str.startswith") [.str x t, .str y u]) Q E s := SC.startswith h
theorem endsS (h : Q (.bool (Txt.endswith x y)) s) : wpAny (model prog w) A (call (.builtin "str.endswith") [.str x t, .str y u]) Q E s := SC.endswith h
theorem countS (h : ∀ t' tk, Q (.int (Txt.count x y) t') { s with toks := tk }) : wpAny (model prog w) A (call (.builtin "str.count") [.str x t, .str y u]) Q E s := SC.count (h _ _)
end
end
/-! Join2 -/
section
def joinF (a b : Str) : Str :=
  if Txt.startswith b (Str.ofString "/") = true ∨ a.length = 0 then b else if Txt.endswith a (Str.ofString "/") = true then a ++ b else a ++ (Str.ofString "/" ++ b)
theorem joinF_le (a b : Str) : (joinF a b).length ≤ a.length + b.length + 1 := by
  unfold joinF
  split
  · omega
  · split
    · rw [Str.length_append]; omega
    · rw [Str.length_append, Str.length_append]; have : (Str.ofString "/").length = 1 := by decide
      omega
section
variable {prog : Program} {w : World} {A : Around} {E : Value → Shared → Prop} {s : Shared} {hT : Heap} {mg mb : Str → Option Value}
theorem join_spec {a b : Str} {t u : Tok} {Q : Value → Shared → Prop} (O : Ok w mg mb hT) (kT : Sub hT s.heap) (R : Room A 2) (hz : a.length + b.length + 1 ≤ sizeLine)
    (h : ∀ h' tk' t', Sub s.heap h' → Q (.str (joinF a b) t') { s with heap := h', toks := tk' }) :
    wpAny (model prog w) A (call (.ref 115) [.str a t, .str b u]) Q E s := by
  refine enterV [(Str.ofString "a", .str a t)] (Str.ofString "p") [.str b u] O kT rfl rfl R.depth rfl (fun v => locs rfl) (Nat.le_of_ble_eq_true rfl) ?_
  intro L p g h₁ tk O' kg hp F
  rw [List.reverse_singleton] at F
  have N : Led g L h₁ [] := Led.nil
  refine wpAny_execs_cons ?_
  refine wpAny_Assign_Name ?_ (by with_unfolding_all rfl)
  refine Call_ ?_ (by with_unfolding_all rfl)
  refine qgl (gn_fspath _) ?_
  refine qfn (kp_fspath _) ?_
  refine args_cons ?_ (by with_unfolding_all rfl)
  refine qlo ?_
  refine args_nil ?_
  refine ⟨Fm.keep (by assumption), ?_⟩
  refine fspath_call (by assumption) (by assumption) (by assumption) (by walk_at "room") ?_; intro h' tk' F' N'
  refine qst ?_; intro h' tk' F' N'
  refine wpAny_execs_cons ?_
  refine wpAny_Assign_Name ?_ (by with_unfolding_all rfl)
  refine Call_ ?_ (by with_unfolding_all rfl)
  refine qgl (gn_get_sep _) ?_
  refine qfn (kp_get_sep _) ?_
  refine args_cons ?_ (by with_unfolding_all rfl)
  refine qlo ?_
  refine args_nil ?_
  refine ⟨Fm.keep (by assumption), ?_⟩
  refine getsep_call (by assumption) (by assumption) (by assumption) (by walk_at "room") ?_; intro h' tk' t' F' N'
  refine qst ?_; intro h' tk' F' N'
  refine wpAny_execs_cons ?_
  refine wpAny_Assign_Name ?_ (by with_unfolding_all rfl)
  refine qlo ?_
  refine qst ?_; intro h' tk' F' N'
  refine wpAny_execs_cons ?_
  dsimp only
  refine wpAny_Try_except (wpAny_mono (E := fun _ _ => False) ?_ (fun _ _ x => x) fun _ _ x => x.elim)
  refine wpAny_execs_cons ?_
  refine wpAny_For ?_ (by intro _; with_unfolding_all rfl)
  refine qlo ?_
  obtain ⟨u', F''⟩ := F'.sel [(Str.ofString "path", .str a t), (Str.ofString "sep", .str (Str.ofString "/") _)] (by with_unfolding_all rfl)
  refine for_tup R.hh (ax := p) (vs := [.str b u]) ⟨_, hp, rfl⟩ (fun i _ ps led => led = [] ∧ ∃ t' t3, ps = [(Str.ofString "path", .str (if i = 0 then a else joinF a b) t'), (Str.ofString "sep", .str (Str.ofString "/") t3)]) F'' N' ⟨rfl, _, _, rfl⟩ ?_ ?_
  · rintro i v h4 tk4 g1 gI ps u4 led hi hv k1 kI ⟨rfl, t5, t6, rfl⟩ hd F4 N4
    have hi0 : i = 0 := by simp at hi; exact hi
    subst hi0
    simp only [List.getElem?_cons_zero, Option.some.injEq] at hv
    subst hv
    rw [if_pos rfl] at F4
    have O4 := O'.keeps (k1.trans kI)
    refine wpAny_assign_Name ?_
    refine qst ?_; intro h' tk' F' N'
    refine wpAny_execs_cons ?_
    refine wpAny_Assign_Name ?_ (by with_unfolding_all rfl)
    refine Call_ ?_ (by with_unfolding_all rfl)
    refine qgl (gn_fspath _) ?_
    refine qfn (kp_fspath _) ?_
    refine args_cons ?_ (by with_unfolding_all rfl)
    refine qlo ?_
    refine args_nil ?_
    refine ⟨Fm.keep (by assumption), ?_⟩
    refine fspath_call (by assumption) (by assumption) (by assumption) (by walk_at "room") ?_; intro h' tk' F' N'
    refine qst ?_; intro h' tk' F' N'
    refine wpAny_execs_cons ?_
    refine wpAny_If ?_
    refine isTrue_or ?_
    refine isTrue_plain ?_ (by with_unfolding_all rfl)
    refine callStr PySem.F.slot_str_startswith PySem.F.type_str_startswith ?_ (by with_unfolding_all rfl) (by with_unfolding_all rfl) (by with_unfolding_all rfl)
    refine qlo ?_
    refine ⟨_, _, rfl, ?_⟩
    refine args_cons ?_ (by with_unfolding_all rfl)
    refine qlo ?_
    refine args_nil ?_
    refine startsS ?_
    refine wpAny_truthy_bool ?_
    dsimp only
    have fin : ∀ {h' : Heap} {tk' : Nat} {x : Str} {tx : Tok} {s₀ : Shared} {rest : List (Str × Value)} {u4 : Str → Option Value}, Fm gI L h' (ov ((Str.ofString "path", .str x tx) :: rest) u4) → Led gI L h' [] → rest.lookup (Str.ofString "sep") = some (.str (Str.ofString "/") t6) → x = joinF a b →
        TurnEnd g1 gI L (List.map (fun x => x.fst) ([] : Lg)) (fun x ps led => led = [] ∧ ∃ t' t3, ps = [(Str.ofString "path", Value.str (if 0 + 1 = 0 then a else joinF a b) t'), (Str.ofString "sep", Value.str (Str.ofString "/") t3)]) s₀ { s₀ with heap := h', toks := tk' } := by
      rintro h' tk' x tx s₀ rest u4 F N e rfl
      obtain ⟨u5, F5⟩ := F.sel [(Str.ofString "path", .str (joinF a b) tx), (Str.ofString "sep", .str (Str.ofString "/") t6)] (by
        simp only [List.map_cons, List.map_nil, List.lookup_cons_self]
        rw [List.lookup_cons, show (Str.ofString "sep" == Str.ofString "path") = false by decide]
        simp only [e])
      exact ⟨_, _, _, u5, [], [], rfl, F5, N, rfl, fun _ _ _ => ⟨rfl, tx, t6, by rw [if_neg (by decide)]⟩⟩
    by_cases c1 : Txt.startswith b (Str.ofString "/") = true
    · refine itb_t c1 ?_
      refine itb_t rfl ?_
      refine wpAny_execs_cons ?_
      refine wpAny_Assign_Name ?_ (by with_unfolding_all rfl)
      refine qlo ?_
      refine qst ?_; intro h' tk' F' N'
      refine wpAny_execs_nil ?_
      refine wpAny_execs_nil ?_
      dsimp only
      exact fin F' N' rfl (by unfold joinF; rw [if_pos (Or.inl c1)])
    · refine itb_f (by simpa using c1) ?_
      refine isTrue_or ?_
      refine isTrue_not ?_
      refine isTrue_plain ?_ (by with_unfolding_all rfl)
      refine qlo ?_
      refine truthyS (by walk_at "size") ?_; intro k'
      dsimp only
      by_cases c2 : a.length = 0
      · refine itb_t (by simpa using c2) ?_
        refine itb_t rfl ?_
        refine wpAny_execs_cons ?_
        refine wpAny_Assign_Name ?_ (by with_unfolding_all rfl)
        refine qlo ?_
        refine qst ?_; intro h' tk' F' N'
        refine wpAny_execs_nil ?_
        refine wpAny_execs_nil ?_
        dsimp only
        exact fin F' N' rfl (by unfold joinF; rw [if_pos (Or.inr c2)])
      · refine itb_f (by simpa using c2) ?_
        refine isTrue_or_nil ?_
        refine itb_f rfl ?_
        refine wpAny_execs_cons ?_
        refine wpAny_If ?_
        refine isTrue_plain ?_ (by with_unfolding_all rfl)
        refine callStr PySem.F.slot_str_endswith PySem.F.type_str_endswith ?_ (by with_unfolding_all rfl) (by with_unfolding_all rfl) (by with_unfolding_all rfl)
        refine qlo ?_
        refine ⟨_, _, rfl, ?_⟩
        refine args_cons ?_ (by with_unfolding_all rfl)
        refine qlo ?_
        refine args_nil ?_
        refine endsS ?_
        refine wpAny_truthy_bool ?_
        by_cases c3 : Txt.endswith a (Str.ofString "/") = true
        · refine itb_t c3 ?_
          refine wpAny_execs_cons ?_
          refine wpAny_AugAssign_Name ?_
          refine qln ?_
          refine qlo ?_
          refine iadd_txt (by walk_at "size") ?_; intro t' k'
          refine qst ?_; intro h' tk' F' N'
          refine wpAny_execs_nil ?_
          refine wpAny_execs_nil ?_
          refine wpAny_execs_nil ?_
          dsimp only
          exact fin F' N' rfl (by unfold joinF; rw [if_neg (by simp [c1, c2]), if_pos c3])
        · refine itb_f (by simpa using c3) ?_
          refine wpAny_execs_cons ?_
          refine wpAny_AugAssign_Name ?_
          refine qln ?_
          refine wpAny_BinOp ?_
          refine qlo ?_
          refine qlo ?_
          refine add_txt (by walk_at "size") ?_; intro t' k'
          refine iadd_txt (by walk_at "size") ?_; intro t' k'
          refine qst ?_; intro h' tk' F' N'
          refine wpAny_execs_nil ?_
          refine wpAny_execs_nil ?_
          refine wpAny_execs_nil ?_
          dsimp only
          exact fin F' N' rfl (by unfold joinF; rw [if_neg (by simp [c1, c2]), if_neg c3])
  · rintro h4 tk4 g1 ps u4 led k1 ⟨rfl, t5, t6, rfl⟩ hd F4 N4
    rw [if_neg (by simp)] at F4
    refine wpAny_execs_nil ?_
    refine wpAny_execs_nil ?_
    refine wpAny_execs_nil ?_
    refine wpAny_execs_cons ?_
    refine wpAny_Return_some ?_
    refine qlo ?_
    dsimp only
    exact h _ _ _ (kg.trans (k1.trans F4.keep))
end
end
/-! Auto2 -/
section
open PySem.Builtin PySem.Builtin.Str
section
variable {prog : Program} {w : World} {A : Around} {E : Value → Shared → Prop} {s : Shared} {hT g : Heap} {L : Addr} {m : Str → Option Value} {led : Lg} {mg mb : Str → Option Value} {x y p : Str} {t u : Tok} {Q : Value → Shared → Prop} {env : Env}
theorem splitroot_call (O : Ok w mg mb g) (F : Fm g L s.heap m) (N : Led g L s.heap led) (R : Room A 2) (hz : p.length ≤ sizeLine)
    (h : ∀ h' tk' a t1 t2 t3, Fm g L h' m → Led g L h' led → h'.get? a = some { cls := .type "tuple", data := .seq #[.str (Str.ofString "") t1, .str (splitF p).1 t2, .str (splitF p).2 t3] } → Q (.ref a) { s with heap := h', toks := tk' }) :
    wpAny (model prog w) A (call (.ref 122) [.str p t]) Q E s := splitroot_spec O F.keep R hz fun h' tk' a t1 t2 t3 k => h h' tk' a t1 t2 t3 (F.sub k) (N.sub k)
theorem join_call (O : Ok w mg mb g) (F : Fm g L s.heap m) (N : Led g L s.heap led) (R : Room A 2) (hz : x.length + y.length + 1 ≤ sizeLine)
    (h : ∀ h' tk' t', Fm g L h' m → Led g L h' led → Q (.str (joinF x y) t') { s with heap := h', toks := tk' }) :
    wpAny (model prog w) A (call (.ref 115) [.str x t, .str y u]) Q E s := join_spec O F.keep R hz fun h' tk' t' k => h h' tk' t' (F.sub k) (N.sub k)
theorem sub_ext {h h' : Heap} (k : Heap.ExtBut h.objs.size h h') : Sub h h' := fun b o e => k b o (Nat.ne_of_lt (Heap.lt_size e)) e
theorem asg2 {e1 e2 : Expr} {k : Nat} {pos : Pos} {a : Addr} {v1 v2 : Value} {Q : Unit → Shared → Prop} (F : Fm g L s.heap m) (N : Led g L s.heap led) (hh : A.handled = none) (ht : s.heap.IsTuple a #[v1, v2])
    (h : ∀ h', Fm g L h' m → Led g L h' led → wpAny (model prog w) A (assign e1 env v1) (fun _ s₁ => wpAny (model prog w) A (assign e2 env v2) Q E s₁) E { s with heap := h' }) (hs : (assignEach [e1, e2] env).findIdx? (·.1) = none) (he : (assignEach [e1, e2] env).map (·.2) = [assign e1 env, assign e2 env]) :
    wpAny (model prog w) A (assign (.Tuple [e1, e2] k pos) env (.ref a)) Q E s := by
  refine wpAny_assign_Tuple (items := #[v1, v2]) hh ht (by have := congrArg List.length he; simpa using this) hs fun h' k' => ?_
  rw [he]
  refine assignInOrder_cons (wpAny_mono (h h' (F.sub (sub_ext k')) (N.sub (sub_ext k'))) (fun _ s₁ q => assignInOrder_cons (wpAny_mono q (fun _ s₂ q => assignInOrder_nil q) fun _ _ x => x)) fun _ _ x => x)
theorem asg3 {e1 e2 e3 : Expr} {k : Nat} {pos : Pos} {a : Addr} {v1 v2 v3 : Value} {Q : Unit → Shared → Prop} (F : Fm g L s.heap m) (N : Led g L s.heap led) (hh : A.handled = none) (ht : s.heap.IsTuple a #[v1, v2, v3])
    (h : ∀ h', Fm g L h' m → Led g L h' led → wpAny (model prog w) A (assign e1 env v1) (fun _ s₁ => wpAny (model prog w) A (assign e2 env v2) (fun _ s₂ => wpAny (model prog w) A (assign e3 env v3) Q E s₂) E s₁) E { s with heap := h' })
    (hs : (assignEach [e1, e2, e3] env).findIdx? (·.1) = none) (he : (assignEach [e1, e2, e3] env).map (·.2) = [assign e1 env, assign e2 env, assign e3 env]) :
    wpAny (model prog w) A (assign (.Tuple [e1, e2, e3] k pos) env (.ref a)) Q E s := by
  refine wpAny_assign_Tuple (items := #[v1, v2, v3]) hh ht (by have := congrArg List.length he; simpa using this) hs fun h' k' => ?_
  rw [he]
  refine assignInOrder_cons (wpAny_mono (h h' (F.sub (sub_ext k')) (N.sub (sub_ext k'))) (fun _ s₁ q => assignInOrder_cons (wpAny_mono q (fun _ s₂ q => assignInOrder_cons (wpAny_mono q (fun _ s₃ q => assignInOrder_nil q) fun _ _ x => x)) fun _ _ x => x)) fun _ _ x => x)
theorem splitS (hy : (y.length == 0) = false) (hz : x.length ≤ sizeLine) (hz2 : (partsBetween x (occurrences x y 0 x.length (x.length + 1)) y.length).length ≤ sizeLine)
    (h : ∀ D l h' tk', l.map (·.1) = Txt.split x y → Sub s.heap h' → h'.IsList D (strValues l).toArray → Q (.ref D) { s with heap := h', toks := tk' }) :
    wpAny (model prog w) A (call (.builtin "str.split") [.str x t, .str y u]) Q E s :=
  SCH.split1 (P := fun h' => Sub s.heap h') (fun h ob k => k.trans (sub_push h ob)) (Sub.refl _) hy (fun D l h' k e p hl => h D l h' k e p hl) hz hz2
theorem refreeze {h : Heap} (F : Fm g L h m) (N : Led g L h led) : ∃ g', Fm g' L h m ∧ Led g' L h led ∧ Sub g g' ∧ ∀ a o, a ≠ L → a ∉ led.map (·.1) → h.get? a = some o → g'.get? a = some o := by
  obtain ⟨g', F', N', k, _⟩ := freeze [] F N
  refine ⟨hideAll h (L :: led.map (·.1)), ⟨F.ns, hide_sub, hideAll_none _ (.head _)⟩, ⟨fun p hp => ⟨(N.has p hp).1, hideAll_none _ (.tail _ (List.mem_map_of_mem hp)), (N.has p hp).2.2⟩, N.nd⟩, sub_hide F.keep (fun a ha => ?_), fun a o h1 h2 e => hideAll_get _ e (by simp only [List.mem_cons, not_or]; exact ⟨h1, h2⟩)⟩
  rcases List.mem_cons.mp ha with rfl | ha
  · exact F.off
  · obtain ⟨p, hp, rfl⟩ := List.mem_map.mp ha
    exact (N.has p hp).2.1
theorem Fm.weak {g' h : Heap} (k : Sub g g') (F : Fm g' L h m) : Fm g L h m := ⟨F.ns, k.trans F.keep, by
  cases q : g.get? L with
  | none => rfl
  | some o => have := k _ _ q; rw [F.off] at this; cases this⟩
theorem list_ne {h : Heap} {a : Addr} {items : Array Value} {m : Str → Option Value} (hl : h.IsList a items) (hn : h.Ns L m) : a ≠ L := by
  rintro rfl
  obtain ⟨o, ho, _, n, hd⟩ := hl
  obtain ⟨o', es, ep, ho', hd', _⟩ := hn
  rw [ho] at ho'; cases ho'; rw [hd] at hd'; cases hd'
theorem has_isList {h : Heap} {a : Addr} {vs : List Value} {g' : Heap} (hl : h.IsList a vs.toArray) (k : ∀ o, h.get? a = some o → g'.get? a = some o) : g'.IsList a vs.toArray := let ⟨o, ho, r⟩ := hl; ⟨o, k _ ho, r⟩
theorem item_last {value slice : Expr} {l : Addr} {vs : List Value} {v : Value} (hl : s.heap.IsList l (vs ++ [v]).toArray) (hz : vs.length < sizeLine) (h : Q v s)
    (hs : subscripted slice false (.ref l) (.int (-1) u) = operate [.ref l, .int (-1) u] (getItem (.ref l) (.int (-1) u)) := by with_unfolding_all rfl) :
    wpAny (model prog w) A (subscriptTail value slice (.ref l) (.int (-1) u)) Q E s :=
  tail_any hl.typeIs slot_list_getitem.lookup (wpAny_getItem_list_neg hl (by decide) (by simp; omega) (by decide) (by rw [show ((-1 : Int) + ((vs ++ [v]).toArray.size : Int)).toNat = vs.length by simp; omega]; simp) h) hs
theorem negI {a : Int} (h : ∀ t' tk, Q (.int (-a) t') { s with toks := tk }) : wpAny (model prog w) A (unaryOp .USub (.int a t)) Q E s := P.neg_int (h _ _)
theorem joinS {D : Addr} {l : List (Str × Tok)} (hl : s.heap.IsList D (strValues l).toArray) (hok : JoinOk x (l.map (·.1)) = true)
    (hq : ∀ t' k, Q (.str (Txt.join x (l.map (·.1))) t') { s with toks := k }) : wpAny (model prog w) A (call (.builtin "str.join") [.str x t, .ref D]) Q E s := SC.join hl rfl hok hq
end
end
/-! Enum -/
section
section
variable {prog : Program} {w : World} {A : Around} {E : Value → Shared → Prop} {s : Shared}
theorem nextOf_tup_item {it t : Addr} {i : Nat} {items : Array Value} {x : Value} {Q : Value → Shared → Prop} (hit : s.heap.IsTupleIter it t i) (ht : s.heap.IsTuple t items) (hx : items[i]? = some x)
    (hQ : ∀ h', h'.IsTupleIter it t (i + 1) → Heap.SameBut it s.heap h' → Q x { s with heap := h' }) : wpAny (model prog w) A (Builtin.SmallTypes.nextOf (.ref it)) Q E s := by
  obtain ⟨o, ho, hc, hd⟩ := id hit
  obtain ⟨ol, hol, _, nl, hdl⟩ := ht
  unfold Builtin.SmallTypes.nextOf
  refine wpAny_bind (wpAny_callSpecial?_slot (name := Str.ofString "__next__") hit.typeIs F.slot_tuple_iterator_next
    (wpAny_call_entry F.slot_tuple_iterator_next hit.typeIs F.entry_tuple_iterator_next ?_ (F.args_tuple_iterator_next_1 _)))
  show wpAny _ _ (field (.ref it) 0 >>= _) _ _ s
  refine wpAny_bind (wpAny_field ho hd (x := .ref t) rfl ?_)
  show wpAny _ _ (if (Value.ref t == Value.none) = true then _ else _) _ _ s
  rw [if_neg (show ¬ ((Value.ref t == Value.none) = true) from Bool.false_ne_true)]
  show wpAny _ _ (field (.ref it) 1 >>= _) _ _ s
  refine wpAny_bind (wpAny_field ho hd (x := .int i 0) rfl ?_)
  show wpAny _ _ (seqItems? (.ref t) >>= _) _ _ s
  refine wpAny_bind (wpAny_seqItems hol hdl ?_)
  simp only [Int.toNat_natCast, hx]
  refine wpAny_bind (wpAny_setField ho hd (by simp) (wpAny_pure ⟨x, rfl, wpAny_pure (hQ _ ?_ (Heap.SameBut.update ..))⟩))
  exact ⟨_, Heap.get?_update_self _ ho (Obj.isFreed_of_fields (Obj.data_mapFields hd _)), (Obj.cls_mapFields ..).trans hc, by
    rw [Obj.data_mapFields hd]; simp [rawInt]⟩
theorem nextOf_tup_end {it t : Addr} {i : Nat} {items : Array Value} {Q : Value → Shared → Prop} (hh : A.handled = none) (hit : s.heap.IsTupleIter it t i) (ht : s.heap.IsTuple t items) (hx : items[i]? = none)
    (hE : ∀ h' e, Heap.ExtBut it s.heap h' → (∃ o, h'.get? e = some o ∧ o.cls = .type "StopIteration") → E (.ref e) { s with heap := h' }) : wpAny (model prog w) A (Builtin.SmallTypes.nextOf (.ref it)) Q E s := by
  obtain ⟨o, ho, hc, hd⟩ := id hit
  obtain ⟨ol, hol, _, nl, hdl⟩ := ht
  unfold Builtin.SmallTypes.nextOf
  refine wpAny_bind (wpAny_callSpecial?_slot (name := Str.ofString "__next__") hit.typeIs F.slot_tuple_iterator_next
    (wpAny_call_entry F.slot_tuple_iterator_next hit.typeIs F.entry_tuple_iterator_next ?_ (F.args_tuple_iterator_next_1 _)))
  show wpAny _ _ (field (.ref it) 0 >>= _) _ _ s
  refine wpAny_bind (wpAny_field ho hd (x := .ref t) rfl ?_)
  show wpAny _ _ (if (Value.ref t == Value.none) = true then _ else _) _ _ s
  rw [if_neg (show ¬ ((Value.ref t == Value.none) = true) from Bool.false_ne_true)]
  show wpAny _ _ (field (.ref it) 1 >>= _) _ _ s
  refine wpAny_bind (wpAny_field ho hd (x := .int i 0) rfl ?_)
  show wpAny _ _ (seqItems? (.ref t) >>= _) _ _ s
  refine wpAny_bind (wpAny_seqItems hol hdl ?_)
  simp only [Int.toNat_natCast, hx]
  refine wpAny_bind (wpAny_rule (wpAny_bind (wpAny_setField ho hd (by simp) ?_)))
  show wpAny _ _ (newExc (.type "StopIteration") [] >>= _) _ _ _
  refine wpAny_bind ?_
  simp only [newExc, newTuple]
  refine wpAny_bind (wpAny_newObj_type ?_ (by size_fits))
  refine wpAny_bind (m := firstArgMember _ _) (wpAny_of_eq (a := Value.none) (by first | rfl | (simp only [firstArgMember]; rfl)) ?_)
  refine wpAny_newObj_type ?_ (by size_fits)
  simp only [raiseNew]
  refine wpAny_bind (wpAny_handled ?_)
  first | rw [show A.in1.handled = none from hh] | rw [hh]
  refine wpAny_bind (wpAny_pure (wpAny_throw ?_))
  exact hE _ _ (((Heap.SameBut.update ..).extBut.push _).push _) ⟨_, Heap.get?_push_size _ rfl, rfl⟩
theorem draws_tup (hh : A.handled = none) (it l : Addr) (hne : l ≠ it) (items : Array Value) :
    Draws prog w A it [it, l] items.size (fun i x => items[i]? = some x) (fun i h => h.IsTupleIter it l i ∧ h.IsTuple l items) where
  live := fun i h st => by obtain ⟨⟨o, ho, _⟩, _⟩ := st; exact ⟨o, ho⟩
  frame := fun i h h' st hk => ⟨st.1.at fun o e => hk it (by simp) o e, st.2.at fun o e => hk l (by simp) o e⟩
  item := fun i s Q E hi st hQ => nextOf_tup_item st.1 st.2 (x := items[i]) (by simp [hi]) fun h' hit' hs' => hQ _ h' s.toks (by simp [hi]) ⟨hit', st.2.extBut hs'.extBut hne⟩ hs'
  done := fun s Q E st hE => nextOf_tup_end hh st.1 st.2 (by simp) hE
open AutoSeq1 (wpAny_loadPart') in
theorem meets_enum_tup (l : Addr) (items : Array Value) (n : Nat) :
    Meets (Builtin.«enumerate.__new__» ⟨[.type "enumerate", .ref l], []⟩) (fun _ R s => s.heap.get? l = some { cls := .type "tuple", dict := none, data := .seq items n, slots := #[] } ∧
      R (.ok (.ret (.ref (s.heap.push { cls := .type "tuple_iterator", data := .fields #[.ref l, .int 0 0] }).objs.size)))
        { s with heap := (s.heap.push { cls := .type "tuple_iterator", data := .fields #[.ref l, .int 0 0] }).push { cls := .type "enumerate", data := .fields #[.none, .bool false, .ref s.heap.objs.size, rawInt 0, .none, .none] } }) :=
  .of_wp fun prog w A R s h => by
    obtain ⟨hp, g, d, tk, os⟩ := s; obtain ⟨hl, h⟩ := h
    have hsub := sub_enumerate
    have hL : Heap.IsTuple (Shared.heap ⟨hp, g, d, tk, os⟩) l items := ⟨_, hl, rfl, n, rfl⟩
    wp_walk using wpAny_loadPart' hl
    refine wpAny_stack_any fun st => wpAny_pure ?_
    split
    · rename_i c _ _ _ _ _
      cases (c == Value.type "enumerate")
      · wp_walk using wpAny_loadPart' hl, wpAny_pyIter_tuple hL
        exact ⟨_, rfl, h⟩
      · wp_walk using wpAny_loadPart' hl, wpAny_pyIter_tuple hL
        exact ⟨_, rfl, h⟩
    · wp_walk using wpAny_loadPart' hl, wpAny_pyIter_tuple hL
      exact ⟨_, rfl, h⟩
theorem call_enum_tup {l : Addr} {items : Array Value} {n : Nat} {Q : Value → Shared → Prop}
    (hl : s.heap.get? l = some { cls := .type "tuple", dict := none, data := .seq items n, slots := #[] })
    (h : ∀ h', IsEnum h' (s.heap.objs.size + 1) s.heap.objs.size 0 .none → h'.IsTupleIter s.heap.objs.size l 0 → h'.objs.size = s.heap.objs.size + 2 →
      (∀ b o, s.heap.get? b = some o → h'.get? b = some o) → Q (.ref (s.heap.objs.size + 1)) { s with heap := h' }) :
    wpAny (model prog w) A (call (.type "enumerate") [.ref l]) Q E s := by
  refine callType_new F.called_enumerate (by decide) (F.typeCall_enumerate_1 _) (F.newCall_enumerate_1 _) (fun obj => F.args_object_init_2 obj _) F.entry_enumerate_new
    (meets_enum_tup l items n) ⟨hl, ?_⟩
  have hz : (s.heap.push { cls := .type "tuple_iterator", data := .fields #[.ref l, .int 0 0] }).objs.size = s.heap.objs.size + 1 := Heap.size_push ..
  show _ ∧ _
  rw [hz]
  have he : IsEnum ((s.heap.push { cls := .type "tuple_iterator", data := .fields #[.ref l, .int 0 0] }).push
      { cls := .type "enumerate", data := .fields #[.none, .bool false, .ref s.heap.objs.size, rawInt 0, .none, .none] }) (s.heap.objs.size + 1) s.heap.objs.size 0 .none := by
    have := Heap.get?_push_size (s.heap.push { cls := .type "tuple_iterator", data := .fields #[.ref l, .int 0 0] })
      (o := { cls := .type "enumerate", data := .fields #[.none, .bool false, .ref s.heap.objs.size, rawInt 0, .none, .none] }) rfl
    rw [hz] at this; exact this
  refine ⟨⟨_, he, rfl⟩, h _ he ⟨_, Heap.get?_push_of_some _ (Heap.get?_push_size _ rfl), rfl, rfl⟩ (by rw [Heap.size_push, hz]) fun b o x => Heap.get?_push_of_some _ (Heap.get?_push_of_some _ x)⟩
end

section
variable {prog : Program} {w : World} {A : Around} {E : Value → Shared → Prop} {s : Shared} {env : Env} {Q : Flow → Shared → Prop} {elts : List Expr} {tk0 : Nat} {tpos : Pos} {body orelse : List Stmt} {L : Addr}
/-- for over enumerate of a frozen tuple -/
theorem for_enum {ax : Addr} {vs : List Value} {g : Heap} {ps₀ : List (Str × Value)} {u₀ : Str → Option Value} {led₀ : Lg} (hh : A.handled = none) (hx : Has g ax (isTup vs)) (P : Nat → Heap → List (Str × Value) → Lg → Prop)
    (F : Fm g L s.heap (ov ps₀ u₀)) (N : Led g L s.heap led₀) (hP : P 0 g ps₀ led₀)
    (turn : ∀ i v T t h tk g1 gI ps u led, i < vs.length → vs[i]? = some v → h.IsTuple T #[.int (i : Nat) t, v] → Sub g g1 → Sub g1 gI → P i g1 ps led → led.map (·.1) = led₀.map (·.1) → Fm gI L h (ov ps u) → Led gI L h led →
      wpAny (model prog w) A (assign (.Tuple elts tk0 tpos) env (.ref T)) (fun _ s₂ => wpAny (model prog w) A (execs body env) (fun f s₃ => match f with
        | .next | .cont => TurnEnd g1 gI L (led₀.map (·.1)) (P (i + 1)) s s₃
        | .brk => Q .next s₃
        | .ret v => Q (.ret v) s₃) (fun _ _ => False) s₂) (fun _ _ => False) { s with heap := h, toks := tk })
    (done : ∀ h tk g1 ps u led, Sub g g1 → P vs.length g1 ps led → led.map (·.1) = led₀.map (·.1) → Fm g1 L h (ov ps u) → Led g1 L h led → wpAny (model prog w) A (execs orelse env) Q (fun _ _ => False) { s with heap := h, toks := tk }) :
    wpAny (model prog w) A (call (.type "enumerate") [.ref ax]) (fun x s₁ => wpAny (model prog w) A (pyIter x) (fun it s₂ => codeAny (model prog w) A (.forLoop (.Tuple elts tk0 tpos) it body orelse env) (ForPost prog w A env E Q) s₂) E s₁) E s := by
  have hx' := hx.to (fun o e => F.keep _ _ e)
  have hTg : ∀ h, Has h ax (isTup vs) → h.IsTuple ax vs.toArray := fun h q => ⟨_, q.tup, rfl, 0, rfl⟩
  refine call_enum_tup hx'.tup fun h0 he hit hz hk0 => ?_
  refine wpAny_pyIter_enum he ?_
  obtain ⟨og, hog, _⟩ := id hx
  obtain ⟨ox, hox, _⟩ := id hx'
  generalize hDD : led₀.map (·.1) = D at turn done
  have haxL : ax ≠ L := F.off' hog
  have haxD : ax ∉ D := hDD ▸ N.off' hog
  have haxlt : ax < s.heap.objs.size := Heap.lt_size hox
  have hDlt : ∀ a ∈ D, a < s.heap.objs.size := fun a ha => by
    rw [← hDD] at ha
    obtain ⟨p, hp, rfl⟩ := List.mem_map.mp ha
    obtain ⟨o, ho, _⟩ := (N.has p hp).2.2
    exact Heap.lt_size ho
  have hLlt := F.lt
  generalize hI : s.heap.objs.size = I at he hit hz haxlt hDlt hLlt
  have hgI : g.get? I = none := hI ▸ get_none F.keep
  have hgE : g.get? (I + 1) = none := by
    cases q : g.get? (I + 1) with
    | none => rfl
    | some o => exact absurd (hI ▸ Heap.lt_size (F.keep _ _ q)) (Nat.not_lt.mpr (Nat.le_succ _))
  have WT := WalksT.enumerateD (prog := prog) (w := w) (draws_tup (prog := prog) (w := w) (A := A.in1) hh I ax (Nat.ne_of_lt haxlt) vs.toArray) (I + 1) (Nat.succ_ne_self I) (fun q => by
    rcases List.mem_cons.mp q with e | q
    · exact Nat.succ_ne_self I e
    · exact absurd haxlt (by rw [← List.mem_singleton.mp q]; exact Nat.not_lt.mpr (Nat.le_succ _))) (by simp)
  have hIL : I ≠ L := Nat.ne_of_gt hLlt
  have hEL : I + 1 ≠ L := Nat.ne_of_gt (Nat.lt_succ_of_lt hLlt)
  have hID : I ∉ D := fun q => Nat.lt_irrefl _ (hDlt _ q)
  have hED : I + 1 ∉ D := fun q => absurd (hDlt _ q) (Nat.not_lt.mpr (Nat.le_succ _))
  refine codeAny_forLoop_any (fun k s' => ∃ i h tk g1 ps u led, s' = { s with heap := h, toks := tk } ∧ k + i = vs.length ∧ ((∃ old, IsEnum h (I + 1) I i old) ∧ h.IsTupleIter I ax i ∧ h.IsTuple ax vs.toArray) ∧ Sub g g1 ∧ g1.get? I = none ∧ g1.get? (I + 1) = none ∧ Fm g1 L h (ov ps u) ∧ Led g1 L h led ∧ led.map (·.1) = D ∧ P i g1 ps led) ?_ vs.length
    ⟨0, h0, s.toks, g, ps₀, u₀, led₀, rfl, by omega, ⟨⟨_, by simpa using he⟩, hit, hTg _ (hx'.to fun o e => hk0 _ _ e)⟩, Sub.refl _, hgI, hgE, F.sub hk0, N.sub hk0, hDD, hP⟩
  rintro k s' ⟨i, h, tk, g1, ps, u, led, rfl, hki, hst, kg, hI1, hE1, F1, N1, hd, hp⟩
  by_cases hlt : i < vs.length
  · refine WT.item i _ _ _ (by simpa using hlt) hst fun T vals h' tk' hpt hTn hTup hmid hk' => ?_
    obtain ⟨t, x, hxv, rfl⟩ := hpt
    refine WT.go _ _ _ i T _ _ _ hmid fun h'' hst'' hk'' => ?_
    have hTw := WT.apart _ _ _ hmid
    have kb : ∀ b o, b ≠ I + 1 → b ≠ I → h.get? b = some o → h''.get? b = some o := fun b o h1 h2 e => hk'' b o (by simp [h1, h2]) (hk' b o (by simp [h1, h2]) e)
    have F2 : Fm g1 L h'' (ov ps u) := F1.to (fun o e => kb _ o (Ne.symm hEL) (Ne.symm hIL) e) (fun b o e => kb b o (by rintro rfl; rw [hE1] at e; cases e) (by rintro rfl; rw [hI1] at e; cases e) (F1.keep b o e)) F1.off
    have N2 : Led g1 L h'' led := ⟨fun p hp => ⟨(N1.has p hp).1, (N1.has p hp).2.1, (N1.has p hp).2.2.to fun o e => kb _ o (fun q => hED (by rw [← q, ← hd]; exact List.mem_map_of_mem hp)) (fun q => hID (by rw [← q, ← hd]; exact List.mem_map_of_mem hp)) e⟩, N1.nd⟩
    have hT2 : h''.IsTuple T #[.int (i : Nat) t, x] := by obtain ⟨o, ho, r⟩ := hTup; exact ⟨o, hk'' _ o hTw ho, r⟩
    have kI : Sub g1 (hideAll h'' (L :: D)) := sub_hide F2.keep (fun a ha => by
      rcases List.mem_cons.mp ha with rfl | ha
      · exact F2.off
      · rw [← hd] at ha
        obtain ⟨p, hp, rfl⟩ := List.mem_map.mp ha
        exact (N2.has p hp).2.1)
    have F3 : Fm (hideAll h'' (L :: D)) L h'' (ov ps u) := ⟨F2.ns, hide_sub, hideAll_none _ (.head _)⟩
    have N3 : Led (hideAll h'' (L :: D)) L h'' led := ⟨fun p hp => ⟨(N2.has p hp).1, hideAll_none _ (.tail _ (by rw [← hd]; exact List.mem_map_of_mem hp)), (N2.has p hp).2.2⟩, N2.nd⟩
    obtain ⟨⟨old2, he2⟩, ⟨o2, ho2, r2⟩, hx2⟩ := hst''
    have hIin : (hideAll h'' (L :: D)).get? I = some o2 := hideAll_get _ ho2 (by simp [hIL, hID])
    have hEin := hideAll_get (L :: D) he2 (by simp [hEL, hED])
    refine wpAny_mono (turn i x T t h'' tk' g1 _ ps u led hlt (by simpa using hxv) hT2 kg kI hp hd F3 N3) (fun _ s₂ h₂ => wpAny_mono h₂ (fun f s₃ h₃ => ?_) fun _ _ x => x.elim) fun _ _ x => x.elim
    have go : TurnEnd g1 (hideAll h'' (L :: D)) L D (P (i + 1)) s s₃ → ∃ m, m < k ∧ ∃ i h tk g1 ps u led, s₃ = { s with heap := h, toks := tk } ∧ m + i = vs.length ∧ ((∃ old, IsEnum h (I + 1) I i old) ∧ h.IsTupleIter I ax i ∧ h.IsTuple ax vs.toArray) ∧ Sub g g1 ∧ g1.get? I = none ∧ g1.get? (I + 1) = none ∧ Fm g1 L h (ov ps u) ∧ Led g1 L h led ∧ led.map (·.1) = D ∧ P i g1 ps led := by
      rintro ⟨h3, tk3, ps', u', new, led', e, F', N', hd', hp'⟩
      have hsub3 : Sub g1 (hideAll h3 (I :: (I + 1) :: L :: D)) := sub_hide (kI.trans F'.keep) fun a ha => by
        rcases List.mem_cons.mp ha with rfl | ha
        · exact hI1
        rcases List.mem_cons.mp ha with rfl | ha
        · exact hE1
        rcases List.mem_cons.mp ha with rfl | ha
        · exact F1.off
        · rw [← hd] at ha
          obtain ⟨p, hp, rfl⟩ := List.mem_map.mp ha
          exact (N1.has p hp).2.1
      refine ⟨k - 1, by omega, i + 1, h3, tk3, hideAll h3 (I :: (I + 1) :: L :: D), ps', u', led', e, by omega, ⟨⟨old2, ?_⟩, ⟨o2, F'.keep _ _ hIin, r2⟩, ?_⟩, kg.trans hsub3, hideAll_none _ (.head _), hideAll_none _ (.tail _ (.head _)), ⟨F'.ns, hide_sub, hideAll_none _ (.tail _ (.tail _ (.head _)))⟩, ⟨fun p hp => ⟨(N'.has p (List.mem_append_right _ hp)).1, hideAll_none _ (.tail _ (.tail _ (.tail _ (by rw [← hd']; exact List.mem_map_of_mem hp)))), (N'.has p (List.mem_append_right _ hp)).2.2⟩, ?_⟩, hd', ?_⟩
      · exact F'.keep _ _ hEin
      · obtain ⟨o, ho, r⟩ := hx2
        exact ⟨o, F'.keep _ _ (hideAll_get _ ho (by simp [haxL, haxD])), r⟩
      · have := N'.nd; rw [List.map_append] at this; exact (List.nodup_append.mp this).2.1
      · refine hp' _ hsub3 fun p hp => ?_
        have q := N'.has p (List.mem_append_left _ hp)
        obtain ⟨o, ho, hPo⟩ := q.2.2
        refine ⟨o, hideAll_get _ ho (fun m => ?_), hPo⟩
        rcases List.mem_cons.mp m with e | m
        · rw [e, hIin] at q; exact nomatch q.2.1
        rcases List.mem_cons.mp m with e | m
        · rw [e, hEin] at q; exact nomatch q.2.1
        rcases List.mem_cons.mp m with e | m
        · exact q.1 e
        · have := N'.nd; rw [List.map_append] at this
          exact (List.nodup_append.mp this).2.2 _ (List.mem_map_of_mem hp) _ (hd' ▸ m) rfl
    cases f with
    | next => exact go h₃
    | cont => exact go h₃
    | brk => exact h₃
    | ret v => exact h₃
  · have hin : i = vs.length := by omega
    subst hin
    refine WT.done _ _ _ (by simpa using hst) fun h' tk' hk' => ?_
    have kb : ∀ b o, b ≠ I + 1 → b ≠ I → h.get? b = some o → h'.get? b = some o := fun b o h1 h2 e => hk' b o (by simp [h1, h2]) e
    have F2 : Fm g1 L h' (ov ps u) := F1.to (fun o e => kb _ o (Ne.symm hEL) (Ne.symm hIL) e) (fun b o e => kb b o (by rintro rfl; rw [hE1] at e; cases e) (by rintro rfl; rw [hI1] at e; cases e) (F1.keep b o e)) F1.off
    have N2 : Led g1 L h' led := ⟨fun p hp => ⟨(N1.has p hp).1, (N1.has p hp).2.1, (N1.has p hp).2.2.to fun o e => kb _ o (fun q => hED (by rw [← q, ← hd]; exact List.mem_map_of_mem hp)) (fun q => hID (by rw [← q, ← hd]; exact List.mem_map_of_mem hp)) e⟩, N1.nd⟩
    exact wpAny_mono (done h' tk' g1 ps u led kg hp hd F2 N2) (fun _ _ x => x) fun _ _ x => x.elim
end
end
/-! Comp -/
section
/-- an element's end: what it has made may be frozen -/
def EltEnd (g1 gI : Heap) (C : Addr) (P : Heap → Prop) (s s₄ : Shared) : Prop :=
  ∃ h' tk' m' new, s₄ = { s with heap := h', toks := tk' } ∧ Fm gI C h' m' ∧ Led gI C h' new ∧ ∀ g2, Sub g1 g2 → (∀ p ∈ new, Has g2 p.1 p.2) → P g2
/-- the steps of one turn that lists and dicts share -/
theorem comp_again {g1 h2 h3 h4 : Heap} {C D I L : Addr} {led new : Lg} {m m' : Str → Option Value} (k2 : Sub g1 h2) (hC : g1.get? C = none) (hD : g1.get? D = none) (hI : g1.get? I = none) (F1 : Fm g1 L h2 m) (N1 : Led g1 L h2 led)
    (hDC : D ≠ C) (hIC : I ≠ C) (hLC : L ≠ C) (hlC : C ∉ led.map (·.1)) (hDL : D ≠ L) (hDl : D ∉ led.map (·.1))
    (eD : ∃ o, h2.get? D = some o) (eI : ∃ o, h2.get? I = some o)
    (F3 : Fm (hideAll h2 [C]) C h3 m') (N3 : Led (hideAll h2 [C]) C h3 new) (k4 : Keeps [D] h3 h4) :
    ∃ g2, Sub g1 g2 ∧ g2.get? C = none ∧ g2.get? D = none ∧ g2.get? I = none ∧ Fm g2 L h4 m ∧ Led g2 L h4 led ∧ ∀ p ∈ new, Has g2 p.1 p.2 := by
  have hin : ∀ b o, b ≠ C → h2.get? b = some o → (hideAll h2 [C]).get? b = some o := fun b o hb e => hideAll_get _ e (by simpa using hb)
  have up : ∀ b o, b ≠ C → b ≠ D → h2.get? b = some o → h4.get? b = some o := fun b o hb hd e => k4 b o (by simpa using hd) (F3.keep _ _ (hin b o hb e))
  have kg : Sub g1 h4 := fun b o e => up b o (by rintro rfl; rw [hC] at e; cases e) (by rintro rfl; rw [hD] at e; cases e) (k2 b o e)
  have hW : ∀ a ∈ C :: D :: I :: L :: led.map (·.1), g1.get? a = none := fun a ha => by
    rcases List.mem_cons.mp ha with rfl | ha
    · exact hC
    rcases List.mem_cons.mp ha with rfl | ha
    · exact hD
    rcases List.mem_cons.mp ha with rfl | ha
    · exact hI
    rcases List.mem_cons.mp ha with rfl | ha
    · exact F1.off
    · obtain ⟨p, hp, rfl⟩ := List.mem_map.mp ha
      exact (N1.has p hp).2.1
  refine ⟨hideAll h4 (C :: D :: I :: L :: led.map (·.1)), sub_hide kg hW, hideAll_none _ (.head _), hideAll_none _ (.tail _ (.head _)), hideAll_none _ (.tail _ (.tail _ (.head _))),
    ⟨?_, hide_sub, hideAll_none _ (.tail _ (.tail _ (.tail _ (.head _))))⟩, ⟨fun p hp => ⟨(N1.has p hp).1, hideAll_none _ (.tail _ (.tail _ (.tail _ (.tail _ (List.mem_map_of_mem hp))))), (N1.has p hp).2.2.to fun o e => up _ o ?_ ?_ e⟩, N1.nd⟩, fun p hp => ?_⟩
  · obtain ⟨oL, es, ep, e, r⟩ := F1.ns
    exact ⟨oL, es, ep, up _ _ hLC (Ne.symm hDL) e, r⟩
  · rintro q; exact hlC (q ▸ List.mem_map_of_mem hp)
  · rintro q; exact hDl (q ▸ List.mem_map_of_mem hp)
  · have q := N3.has p hp
    obtain ⟨o, ho, hP⟩ := q.2.2
    have out : ∀ b o', b ≠ C → h2.get? b = some o' → p.1 ≠ b := fun b o' hb e r => by have := hin b o' hb e; rw [← r, q.2.1] at this; cases this
    obtain ⟨oD, hoD⟩ := eD
    obtain ⟨oI, hoI⟩ := eI
    obtain ⟨oL, es, ep, eL, r⟩ := F1.ns
    refine ⟨o, hideAll_get _ (k4 _ _ (by simpa using out D oD hDC hoD) ho) (fun mm => ?_), hP⟩
    rcases List.mem_cons.mp mm with e | mm
    · exact q.1 e
    rcases List.mem_cons.mp mm with e | mm
    · exact out D oD hDC hoD e
    rcases List.mem_cons.mp mm with e | mm
    · exact out I oI hIC hoI e
    rcases List.mem_cons.mp mm with e | mm
    · exact out L oL hLC eL e
    · obtain ⟨p2, hp2, e2⟩ := List.mem_map.mp mm
      obtain ⟨o2, ho2, _⟩ := (N1.has p2 hp2).2.2
      exact out p2.1 o2 (by rintro q2; exact hlC (q2 ▸ List.mem_map_of_mem hp2)) ho2 e2.symm
def isDct (prog : Program) (w : World) (kvs : List (Str × Value)) (o : Obj) : Prop := o.IsDictOf (strKind prog w) kvs
theorem ov_nil {u : Str → Option Value} : ov [] u = u := by funext y; rfl

section
variable {prog : Program} {w : World} {A : Around} {E : Value → Shared → Prop} {s : Shared} {env : Env} {L : Addr} {g : Heap} {m : Str → Option Value} {led : Lg} {cl : List (Str × Addr)}
  {elt kx vx iter : Expr} {x : Str} {px : Pos} {ifs : List Expr} {scope : Scope} {pos : Pos} {I : Addr} {fp : List Addr} {n : Nat} {PV : Nat → Value → Prop} {St : Nat → Heap → Prop}
/-- the loop of a list comprehension -/
theorem lcomp_core (W : Walks prog w A I fp [I] n PV St) (hsz : n ≤ sizeLine) (P : Nat → Heap → List Value → Prop) (F : Fm g L s.heap m) (N : Led g L s.heap led) (hP : P 0 g []) (hst : St 0 s.heap)
    (hIg : g.get? I = none) (hIL : I ≠ L) (hIled : I ∉ led.map (·.1)) (hI : ∀ i h, St i h → ∃ o, h.get? I = some o) (hfp : ∀ b ∈ fp, b < s.heap.objs.size) {RR : Value → Addr → Result → Shared → Prop}
    (hcell : ∀ y ∈ scope.names, y.2 ≠ .cell) (hkind : scope.kind = .function) (hx : scope.names.lookup x = some .local)
    (turn : ∀ i v h tk g1 gI C u ys, i < n → PV i v → Sub g g1 → Sub g1 gI → P i g1 ys → ys.length ≤ i → Fm gI C h (ov [(x, v)] u) → Led gI C h [] →
      wpAny (model prog w) A (forIn ifs true fun c r => if r = true then do let ok ← isTrue c (compEnvC scope cl C env) (eval c (compEnvC scope cl C env)); pure (ForInStep.yield ok) else pure (ForInStep.yield r))
        (fun ok s₃ => if ok = true then wpAny (model prog w) A (eval elt (compEnvC scope cl C env)) (fun y s₄ => EltEnd g1 gI C (fun g2 => P (i + 1) g2 (ys ++ [y])) s s₄) (fun _ _ => False) s₃ else EltEnd g1 gI C (fun g2 => P (i + 1) g2 ys) s s₃) (fun _ _ => False) { s with heap := h, toks := tk })
    (hRR : ∀ D C h' tk g1 ys mC, Sub g g1 → P n g1 ys → Fm g1 L h' m → Led g1 L h' ((D, isLst ys) :: led) → g1.get? C = none → C ≠ L → C ≠ D → C ∉ led.map (·.1) → h'.Ns C mC → RR (.ref D) C (.ok .next) { s with heap := h', toks := tk }) :
    wpAny (model prog w) A (newList []) (fun acc s₃ => wpAny (model prog w) A (newFunctionEnv scope env.globals cl [] env.qual none .none (some env)) (fun cenv s₄ =>
      codeAny (model prog w) A (.compStart (.ListComp elt [⟨.Name x px, iter, ifs, 0⟩] scope pos) 0 (.ref I) acc { cenv with scope := relabel scope env }) (RR acc cenv.locals) s₄) E s₃) E s := by
  refine wpAny_newObj_type (wpAny_newFunctionEnv hcell (by intro y hy; simp at hy) (fun h₁ hns₁ hsb₁ => ?_) hkind)
  dsimp only at hns₁ hsb₁ ⊢
  generalize hH2 : s.heap.push { cls := .type "list", dict := none, data := .seq ([] : List Value).toArray } = H2 at hns₁ hsb₁ ⊢
  have hC : H2.objs.size = s.heap.objs.size + 1 := by rw [← hH2, Heap.size_push]
  have hDC : s.heap.objs.size ≠ H2.objs.size := by rw [hC]; exact Nat.ne_of_lt (Nat.lt_succ_self _)
  have below : ∀ b, b < s.heap.objs.size → b ≠ H2.objs.size ∧ b ≠ s.heap.objs.size := fun b hb => ⟨by rw [hC]; exact Nat.ne_of_lt (Nat.lt_succ_of_lt hb), Nat.ne_of_lt hb⟩
  have hDf : s.heap.objs.size ∉ fp := fun hm => Nat.lt_irrefl _ (hfp _ hm)
  have hCf : H2.objs.size ∉ fp := fun hm => by have := hfp _ hm; rw [hC] at this; exact Nat.lt_irrefl _ (Nat.lt_of_succ_lt this)
  have old : Sub s.heap h₁ := fun b o e => hsb₁.extBut b o (below b (Heap.lt_size e)).1 (Heap.get?_push_of_some _ (hH2 ▸ Heap.get?_push_of_some _ e))
  have hacc : Has h₁ s.heap.objs.size (isLst []) := ⟨_, hsb₁.extBut _ _ hDC (Heap.get?_push_of_some _ (hH2 ▸ Heap.get?_push_size _ rfl)), 0, rfl⟩
  have hst₁ : St 0 h₁ := W.frame _ _ _ hst fun b _ o e => old b o e
  have hIlt : I < s.heap.objs.size := by obtain ⟨o, ho⟩ := hI _ _ hst; exact Heap.lt_size ho
  have fresh : ∀ a, s.heap.objs.size ≤ a → g.get? a = none := fun a ha => by
    cases e : g.get? a with
    | none => rfl
    | some o' => exact absurd (Heap.lt_size (F.keep _ _ e)) (Nat.not_lt.mpr ha)
  have ledlt : ∀ a ∈ led.map (·.1), a < s.heap.objs.size := fun a ha => by
    obtain ⟨p, hp, rfl⟩ := List.mem_map.mp ha
    obtain ⟨o, ho, _⟩ := (N.has p hp).2.2
    exact Heap.lt_size ho
  have loop : ∀ s₃ : Shared, s₃ = { s with heap := h₁, toks := s.toks + ([] : List (Str × Value)).length } →
      codeAny (model prog w) A (.compLoop (.ListComp elt [⟨.Name x px, iter, ifs, 0⟩] scope pos) 0 (.ref I) (.ref s.heap.objs.size) (compEnvC scope cl H2.objs.size env))
        (RR (.ref s.heap.objs.size) H2.objs.size) s₃ := by
    rintro s₃ rfl
    have hCL : H2.objs.size ≠ L := (below _ F.lt).1.symm
    have hDL : s.heap.objs.size ≠ L := Nat.ne_of_gt F.lt
    have hCl : H2.objs.size ∉ led.map (·.1) := fun q => (below _ (ledlt _ q)).1 rfl
    have hDl : s.heap.objs.size ∉ led.map (·.1) := fun q => Nat.lt_irrefl _ (ledlt _ q)
    have hIC : I ≠ H2.objs.size := (below _ hIlt).1
    have hID : I ≠ s.heap.objs.size := (below _ hIlt).2
    have hCg := fresh _ (Nat.le_of_lt (by rw [hC]; exact Nat.lt_succ_self _) : s.heap.objs.size ≤ H2.objs.size)
    have hDg := fresh _ (Nat.le_refl _)
    generalize s.heap.objs.size = D at hacc hDC hDf hDL hDl hID hDg ⊢
    generalize H2.objs.size = C at hns₁ hDC hCf hCL hCl hIC hCg ⊢
    clear below ledlt fresh hC hsb₁
    have hkl : ∀ C, (compEnvC scope cl C env).kindOf x = some .local := fun C => lookup_relabel_local hx
    refine codeAny_compLoop_tests (fun k s' => ∃ i h tk g1 ys mC, s' = { s with heap := h, toks := tk } ∧ k + i = n ∧ St i h ∧ Sub g g1 ∧ g1.get? I = none ∧ g1.get? C = none ∧ g1.get? D = none ∧ Fm g1 L h m ∧ Led g1 L h led ∧ h.Ns C mC ∧ Has h D (isLst ys) ∧ ys.length ≤ i ∧ P i g1 ys) ?_ n
      ⟨0, h₁, _, g, [], _, rfl, by omega, hst₁, Sub.refl _, hIg, hCg, hDg, F.sub old, N.sub old, hns₁, hacc, Nat.le_refl _, hP⟩
    rintro k s' ⟨i, h, tk, g1, ys, mC, rfl, hki, hSt, kg, hI1, hC1, hD1, F1, N1, hnC, hD, hys, hp⟩
    by_cases hlt : i < n
    · refine W.item i _ _ _ hlt hSt fun v h' tk' hPv hSt' hk => ?_
      refine wpAny_assign_Name (wpAny_storeName_local (hkl C) (hnC.at' fun o e => hk _ o (by simpa using Ne.symm hIC) e) (fun h₂ hn₂ hs₂ => ?_) (by simp [compEnvC, relabel, hkind]))
      have up : ∀ b o, b ≠ I → b ≠ C → h.get? b = some o → h₂.get? b = some o := fun b o hb hc e => hs₂.extBut b o hc (hk b o (by simpa using hb) e)
      have F2 : Fm g1 L h₂ m := F1.to (fun o e => up _ o (Ne.symm hIL) (Ne.symm hCL) e) (fun b o e => up b o (by rintro rfl; rw [hI1] at e; cases e) (by rintro rfl; rw [hC1] at e; cases e) (F1.keep b o e)) F1.off
      have N2 : Led g1 L h₂ led := ⟨fun p hp => ⟨(N1.has p hp).1, (N1.has p hp).2.1, (N1.has p hp).2.2.to fun o e => up _ o (by rintro q; exact hIled (q ▸ List.mem_map_of_mem hp)) (by rintro q; exact hCl (q ▸ List.mem_map_of_mem hp)) e⟩, N1.nd⟩
      have hSt2 : St (i + 1) h₂ := W.frame _ _ _ hSt' fun b hb o e => hs₂.extBut b o (fun (q : b = C) => hCf (q ▸ hb)) e
      have hD2 : Has h₂ D (isLst ys) := hD.to fun o e => up _ o (Ne.symm hID) hDC e
      have kI : Sub g1 (hideAll h₂ [C]) := sub_hide F2.keep (by simpa using hC1)
      have FC : Fm (hideAll h₂ [C]) C h₂ (ov [(x, v)] mC) := ⟨by rw [← ov_set, ov_nil]; exact hn₂, hide_sub, hideAll_none _ (.head _)⟩
      obtain ⟨oI, hoI⟩ := hI _ _ hSt2
      obtain ⟨oD, hoD, _⟩ := id hD2
      have fin : ∀ h3 tk3 (ys' : List Value) m3 new, Fm (hideAll h₂ [C]) C h3 m3 → Led (hideAll h₂ [C]) C h3 new → (∀ g2, Sub g1 g2 → (∀ p ∈ new, Has g2 p.1 p.2) → P (i + 1) g2 ys') → ys'.length ≤ i + 1 → ∀ h4, Has h4 D (isLst ys') → Keeps [D] h3 h4 →
          ∃ m', m' < k ∧ ∃ i h tk g1 ys mC, ({ s with heap := h4, toks := tk3 } : Shared) = { s with heap := h, toks := tk } ∧ m' + i = n ∧ St i h ∧ Sub g g1 ∧ g1.get? I = none ∧ g1.get? C = none ∧ g1.get? D = none ∧ Fm g1 L h m ∧ Led g1 L h led ∧ h.Ns C mC ∧ Has h D (isLst ys) ∧ ys.length ≤ i ∧ P i g1 ys := by
        intro h3 tk3 ys' m3 new F3 N3 hp3 hl3 h4 hD4 k4
        obtain ⟨g2, s2, c2, d2, i2, F4, N4, hn4⟩ := comp_again F2.keep hC1 hD1 hI1 F2 N2 hDC hIC (Ne.symm hCL) hCl hDL hDl ⟨oD, hoD⟩ ⟨oI, hoI⟩ F3 N3 k4
        refine ⟨k - 1, by omega, i + 1, h4, tk3, g2, ys', m3, rfl, by omega, W.frame _ _ _ hSt2 fun b hb o e => k4 b o (fun q => hDf (List.mem_singleton.mp q ▸ hb)) (F3.keep _ _ (hideAll_get _ e (fun q => hCf (List.mem_singleton.mp q ▸ hb)))), kg.trans s2, i2, c2, d2, F4, N4, ?_, hD4, hl3, hp3 _ s2 hn4⟩
        obtain ⟨oC, es, ep, e, r⟩ := F3.ns
        exact ⟨oC, es, ep, k4 _ _ (by simpa using Ne.symm hDC) e, r⟩
      refine wpAny_mono (turn i v h₂ _ g1 _ C mC ys hlt hPv kg kI hp hys FC Led.nil) (fun ok s₃ h₃ => ?_) fun _ _ x => x.elim
      cases ok with
      | false =>
        rw [if_neg Bool.false_ne_true] at h₃ ⊢
        obtain ⟨h3, tk3, m3, new, rfl, F3, N3, hp3⟩ := h₃
        refine fin h3 tk3 ys m3 new F3 N3 hp3 (by omega) h3 ?_ (Keeps.refl _)
        exact hD2.to fun o e => F3.keep _ _ (hideAll_get _ e (by simpa using hDC))
      | true =>
        rw [if_pos rfl] at h₃ ⊢
        refine wpAny_mono h₃ (fun y s₄ h₄ => ?_) fun _ _ x => x.elim
        obtain ⟨h3, tk3, m3, new, rfl, F3, N3, hp3⟩ := h₄
        have hD3 : Has h3 D (isLst ys) := hD2.to fun o e => F3.keep _ _ (hideAll_get _ e (by simpa using hDC))
        refine append_lst hD3 (by omega) fun h4 hD4 k4 => ?_
        exact fin h3 tk3 (ys ++ [y]) m3 new F3 N3 hp3 (by simp; omega) h4 hD4 k4
    · have hin : i = n := by omega
      subst hin
      refine W.done _ _ _ hSt fun h' tk' hk => ?_
      have up : ∀ b o, b ≠ I → h.get? b = some o → h'.get? b = some o := fun b o hb e => hk b o (by simpa using hb) e
      have F2 : Fm g1 L h' m := F1.to (fun o e => up _ o (Ne.symm hIL) e) (fun b o e => up b o (by rintro rfl; rw [hI1] at e; cases e) (F1.keep b o e)) F1.off
      have N2 : Led g1 L h' led := ⟨fun p hp => ⟨(N1.has p hp).1, (N1.has p hp).2.1, (N1.has p hp).2.2.to fun o e => up _ o (by rintro q; exact hIled (q ▸ List.mem_map_of_mem hp)) e⟩, N1.nd⟩
      have hD2 : Has h' D (isLst ys) := hD.to fun o e => up _ o (Ne.symm hID) e
      refine hRR D C h' tk' g1 ys mC kg hp F2 ⟨fun p hp => ?_, ?_⟩ hC1 hCL (Ne.symm hDC) hCl (hnC.at' fun o e => up _ o (Ne.symm hIC) e)
      · rcases List.mem_cons.mp hp with rfl | hp
        · exact ⟨hDL, hD1, hD2⟩
        · exact N2.has p hp
      · rw [List.map_cons, List.nodup_cons]; exact ⟨hDl, N2.nd⟩
  exact codeAny_compStart_list (loop _ rfl) (W.self 0 _ _ _ hst₁ (loop _ rfl))
/-- the loop of a dict comprehension, its keys texts -/
theorem dcomp_core (W : Walks prog w A I fp [I] n PV St) (hsz : n ≤ sizeLine) (P : Nat → Heap → List (Str × Value) → Prop) (F : Fm g L s.heap m) (N : Led g L s.heap led) (hP : P 0 g []) (hst : St 0 s.heap)
    (hIg : g.get? I = none) (hIL : I ≠ L) (hIled : I ∉ led.map (·.1)) (hI : ∀ i h, St i h → ∃ o, h.get? I = some o) (hfp : ∀ b ∈ fp, b < s.heap.objs.size) {RR : Value → Addr → Result → Shared → Prop}
    (hcell : ∀ y ∈ scope.names, y.2 ≠ .cell) (hkind : scope.kind = .function) (hx : scope.names.lookup x = some .local)
    (turn : ∀ i v h tk g1 gI C u ys, i < n → PV i v → Sub g g1 → Sub g1 gI → P i g1 ys → ys.length ≤ i → Fm gI C h (ov [(x, v)] u) → Led gI C h [] →
      wpAny (model prog w) A (forIn ifs true fun c r => if r = true then do let ok ← isTrue c (compEnvC scope cl C env) (eval c (compEnvC scope cl C env)); pure (ForInStep.yield ok) else pure (ForInStep.yield r))
        (fun ok s₃ => if ok = true then wpAny (model prog w) A (eval kx (compEnvC scope cl C env)) (fun kv s₄ => wpAny (model prog w) A (eval vx (compEnvC scope cl C env)) (fun y s₅ => ∃ key kt, kv = .str key kt ∧ key ∉ ys.map (·.1) ∧ EltEnd g1 gI C (fun g2 => P (i + 1) g2 (ys ++ [(key, y)])) s s₅) (fun _ _ => False) s₄) (fun _ _ => False) s₃ else EltEnd g1 gI C (fun g2 => P (i + 1) g2 ys) s s₃) (fun _ _ => False) { s with heap := h, toks := tk })
    (hRR : ∀ D C h' tk g1 ys mC, Sub g g1 → P n g1 ys → Fm g1 L h' m → Led g1 L h' ((D, isDct prog w ys) :: led) → g1.get? C = none → C ≠ L → C ≠ D → C ∉ led.map (·.1) → h'.Ns C mC → RR (.ref D) C (.ok .next) { s with heap := h', toks := tk }) :
    wpAny (model prog w) A newDict (fun acc s₃ => wpAny (model prog w) A (newFunctionEnv scope env.globals cl [] env.qual none .none (some env)) (fun cenv s₄ =>
      codeAny (model prog w) A (.compStart (.DictComp kx vx [⟨.Name x px, iter, ifs, 0⟩] scope pos) 0 (.ref I) acc { cenv with scope := relabel scope env }) (RR acc cenv.locals) s₄) E s₃) E s := by
  refine wpAny_newObj_type (wpAny_newFunctionEnv hcell (by intro y hy; simp at hy) (fun h₁ hns₁ hsb₁ => ?_) hkind)
  dsimp only at hns₁ hsb₁ ⊢
  generalize hH2 : s.heap.push { cls := .type "dict", dict := none, data := .dict #[] } = H2 at hns₁ hsb₁ ⊢
  have hC : H2.objs.size = s.heap.objs.size + 1 := by rw [← hH2, Heap.size_push]
  have hDC : s.heap.objs.size ≠ H2.objs.size := by rw [hC]; exact Nat.ne_of_lt (Nat.lt_succ_self _)
  have below : ∀ b, b < s.heap.objs.size → b ≠ H2.objs.size ∧ b ≠ s.heap.objs.size := fun b hb => ⟨by rw [hC]; exact Nat.ne_of_lt (Nat.lt_succ_of_lt hb), Nat.ne_of_lt hb⟩
  have hDf : s.heap.objs.size ∉ fp := fun hm => Nat.lt_irrefl _ (hfp _ hm)
  have hCf : H2.objs.size ∉ fp := fun hm => by have := hfp _ hm; rw [hC] at this; exact Nat.lt_irrefl _ (Nat.lt_of_succ_lt this)
  have old : Sub s.heap h₁ := fun b o e => hsb₁.extBut b o (below b (Heap.lt_size e)).1 (Heap.get?_push_of_some _ (hH2 ▸ Heap.get?_push_of_some _ e))
  have hacc : Has h₁ s.heap.objs.size (isDct prog w []) := by
    refine Has.to ?_ (fun o e => hsb₁.extBut _ _ hDC (Heap.get?_push_of_some _ e))
    rw [← hH2]
    exact Heap.dictOf_iff.mp (Heap.DictOf.new s.heap)
  have hst₁ : St 0 h₁ := W.frame _ _ _ hst fun b _ o e => old b o e
  have hIlt : I < s.heap.objs.size := by obtain ⟨o, ho⟩ := hI _ _ hst; exact Heap.lt_size ho
  have fresh : ∀ a, s.heap.objs.size ≤ a → g.get? a = none := fun a ha => by
    cases e : g.get? a with
    | none => rfl
    | some o' => exact absurd (Heap.lt_size (F.keep _ _ e)) (Nat.not_lt.mpr ha)
  have ledlt : ∀ a ∈ led.map (·.1), a < s.heap.objs.size := fun a ha => by
    obtain ⟨p, hp, rfl⟩ := List.mem_map.mp ha
    obtain ⟨o, ho, _⟩ := (N.has p hp).2.2
    exact Heap.lt_size ho
  have loop : ∀ s₃ : Shared, s₃ = { s with heap := h₁, toks := s.toks + ([] : List (Str × Value)).length } →
      codeAny (model prog w) A (.compLoop (.DictComp kx vx [⟨.Name x px, iter, ifs, 0⟩] scope pos) 0 (.ref I) (.ref s.heap.objs.size) (compEnvC scope cl H2.objs.size env))
        (RR (.ref s.heap.objs.size) H2.objs.size) s₃ := by
    rintro s₃ rfl
    have hCL : H2.objs.size ≠ L := (below _ F.lt).1.symm
    have hDL : s.heap.objs.size ≠ L := Nat.ne_of_gt F.lt
    have hCl : H2.objs.size ∉ led.map (·.1) := fun q => (below _ (ledlt _ q)).1 rfl
    have hDl : s.heap.objs.size ∉ led.map (·.1) := fun q => Nat.lt_irrefl _ (ledlt _ q)
    have hIC : I ≠ H2.objs.size := (below _ hIlt).1
    have hID : I ≠ s.heap.objs.size := (below _ hIlt).2
    have hCg := fresh _ (Nat.le_of_lt (by rw [hC]; exact Nat.lt_succ_self _) : s.heap.objs.size ≤ H2.objs.size)
    have hDg := fresh _ (Nat.le_refl _)
    generalize s.heap.objs.size = D at hacc hDC hDf hDL hDl hID hDg ⊢
    generalize H2.objs.size = C at hns₁ hDC hCf hCL hCl hIC hCg ⊢
    clear below ledlt fresh hC hsb₁
    have hkl : ∀ C, (compEnvC scope cl C env).kindOf x = some .local := fun C => lookup_relabel_local hx
    refine codeAny_compLoop_testsD (fun k s' => ∃ i h tk g1 ys mC, s' = { s with heap := h, toks := tk } ∧ k + i = n ∧ St i h ∧ Sub g g1 ∧ g1.get? I = none ∧ g1.get? C = none ∧ g1.get? D = none ∧ Fm g1 L h m ∧ Led g1 L h led ∧ h.Ns C mC ∧ Has h D (isDct prog w ys) ∧ ys.length ≤ i ∧ P i g1 ys) ?_ n
      ⟨0, h₁, _, g, [], _, rfl, by omega, hst₁, Sub.refl _, hIg, hCg, hDg, F.sub old, N.sub old, hns₁, hacc, Nat.le_refl _, hP⟩
    rintro k s' ⟨i, h, tk, g1, ys, mC, rfl, hki, hSt, kg, hI1, hC1, hD1, F1, N1, hnC, hD, hys, hp⟩
    by_cases hlt : i < n
    · refine W.item i _ _ _ hlt hSt fun v h' tk' hPv hSt' hk => ?_
      refine wpAny_assign_Name (wpAny_storeName_local (hkl C) (hnC.at' fun o e => hk _ o (by simpa using Ne.symm hIC) e) (fun h₂ hn₂ hs₂ => ?_) (by simp [compEnvC, relabel, hkind]))
      have up : ∀ b o, b ≠ I → b ≠ C → h.get? b = some o → h₂.get? b = some o := fun b o hb hc e => hs₂.extBut b o hc (hk b o (by simpa using hb) e)
      have F2 : Fm g1 L h₂ m := F1.to (fun o e => up _ o (Ne.symm hIL) (Ne.symm hCL) e) (fun b o e => up b o (by rintro rfl; rw [hI1] at e; cases e) (by rintro rfl; rw [hC1] at e; cases e) (F1.keep b o e)) F1.off
      have N2 : Led g1 L h₂ led := ⟨fun p hp => ⟨(N1.has p hp).1, (N1.has p hp).2.1, (N1.has p hp).2.2.to fun o e => up _ o (by rintro q; exact hIled (q ▸ List.mem_map_of_mem hp)) (by rintro q; exact hCl (q ▸ List.mem_map_of_mem hp)) e⟩, N1.nd⟩
      have hSt2 : St (i + 1) h₂ := W.frame _ _ _ hSt' fun b hb o e => hs₂.extBut b o (fun (q : b = C) => hCf (q ▸ hb)) e
      have hD2 : Has h₂ D (isDct prog w ys) := hD.to fun o e => up _ o (Ne.symm hID) hDC e
      have kI : Sub g1 (hideAll h₂ [C]) := sub_hide F2.keep (by simpa using hC1)
      have FC : Fm (hideAll h₂ [C]) C h₂ (ov [(x, v)] mC) := ⟨by rw [← ov_set, ov_nil]; exact hn₂, hide_sub, hideAll_none _ (.head _)⟩
      obtain ⟨oI, hoI⟩ := hI _ _ hSt2
      obtain ⟨oD, hoD, _⟩ := id hD2
      have fin : ∀ h3 tk3 (ys' : List (Str × Value)) m3 new, Fm (hideAll h₂ [C]) C h3 m3 → Led (hideAll h₂ [C]) C h3 new → (∀ g2, Sub g1 g2 → (∀ p ∈ new, Has g2 p.1 p.2) → P (i + 1) g2 ys') → ys'.length ≤ i + 1 → ∀ h4, Has h4 D (isDct prog w ys') → Keeps [D] h3 h4 →
          ∃ m', m' < k ∧ ∃ i h tk g1 ys mC, ({ s with heap := h4, toks := tk3 } : Shared) = { s with heap := h, toks := tk } ∧ m' + i = n ∧ St i h ∧ Sub g g1 ∧ g1.get? I = none ∧ g1.get? C = none ∧ g1.get? D = none ∧ Fm g1 L h m ∧ Led g1 L h led ∧ h.Ns C mC ∧ Has h D (isDct prog w ys) ∧ ys.length ≤ i ∧ P i g1 ys := by
        intro h3 tk3 ys' m3 new F3 N3 hp3 hl3 h4 hD4 k4
        obtain ⟨g2, s2, c2, d2, i2, F4, N4, hn4⟩ := comp_again F2.keep hC1 hD1 hI1 F2 N2 hDC hIC (Ne.symm hCL) hCl hDL hDl ⟨oD, hoD⟩ ⟨oI, hoI⟩ F3 N3 k4
        refine ⟨k - 1, by omega, i + 1, h4, tk3, g2, ys', m3, rfl, by omega, W.frame _ _ _ hSt2 fun b hb o e => k4 b o (fun q => hDf (List.mem_singleton.mp q ▸ hb)) (F3.keep _ _ (hideAll_get _ e (fun q => hCf (List.mem_singleton.mp q ▸ hb)))), kg.trans s2, i2, c2, d2, F4, N4, ?_, hD4, hl3, hp3 _ s2 hn4⟩
        obtain ⟨oC, es, ep, e, r⟩ := F3.ns
        exact ⟨oC, es, ep, k4 _ _ (by simpa using Ne.symm hDC) e, r⟩
      refine wpAny_mono (turn i v h₂ _ g1 _ C mC ys hlt hPv kg kI hp hys FC Led.nil) (fun ok s₃ h₃ => ?_) fun _ _ x => x.elim
      cases ok with
      | false =>
        rw [if_neg Bool.false_ne_true] at h₃ ⊢
        obtain ⟨h3, tk3, m3, new, rfl, F3, N3, hp3⟩ := h₃
        refine fin h3 tk3 ys m3 new F3 N3 hp3 (by omega) h3 ?_ (Keeps.refl _)
        exact hD2.to fun o e => F3.keep _ _ (hideAll_get _ e (by simpa using hDC))
      | true =>
        rw [if_pos rfl] at h₃ ⊢
        refine wpAny_mono h₃ (fun kv s₄ h₄ => ?_) fun _ _ x => x.elim
        refine wpAny_mono h₄ (fun y s₅ h₅ => ?_) fun _ _ x => x.elim
        obtain ⟨key, kt, rfl, hnk, h3, tk3, m3, new, rfl, F3, N3, hp3⟩ := h₅
        have hD3 : Has h3 D (isDct prog w ys) := hD2.to fun o e => F3.keep _ _ (hideAll_get _ e (by simpa using hDC))
        refine wpAny_dictSet_pairs (knd := strKind prog w) (k := key) (hsz := by omega) (by simp [PySem.strKind, Value.isStrOf]) (Heap.dictOf_iff.mpr hD3) fun h4 hm4 hs4 => ?_
        have hst4 : stored ys key y = ys ++ [(key, y)] := by
          unfold stored
          rw [if_neg]
          intro q
          obtain ⟨kv, hkv, e⟩ := List.any_eq_true.mp q
          exact hnk (by rw [← of_decide_eq_true e]; exact List.mem_map_of_mem hkv)
        rw [hst4] at hm4
        exact fin h3 _ (ys ++ [(key, y)]) m3 new F3 N3 hp3 (by simp; omega) h4 (Heap.dictOf_iff.mp hm4) (keeps_same hs4)
    · have hin : i = n := by omega
      subst hin
      refine W.done _ _ _ hSt fun h' tk' hk => ?_
      have up : ∀ b o, b ≠ I → h.get? b = some o → h'.get? b = some o := fun b o hb e => hk b o (by simpa using hb) e
      have F2 : Fm g1 L h' m := F1.to (fun o e => up _ o (Ne.symm hIL) e) (fun b o e => up b o (by rintro rfl; rw [hI1] at e; cases e) (F1.keep b o e)) F1.off
      have N2 : Led g1 L h' led := ⟨fun p hp => ⟨(N1.has p hp).1, (N1.has p hp).2.1, (N1.has p hp).2.2.to fun o e => up _ o (by rintro q; exact hIled (q ▸ List.mem_map_of_mem hp)) e⟩, N1.nd⟩
      have hD2 : Has h' D (isDct prog w ys) := hD.to fun o e => up _ o (Ne.symm hID) e
      refine hRR D C h' tk' g1 ys mC kg hp F2 ⟨fun p hp => ?_, ?_⟩ hC1 hCL (Ne.symm hDC) hCl (hnC.at' fun o e => up _ o (Ne.symm hIC) e)
      · rcases List.mem_cons.mp hp with rfl | hp
        · exact ⟨hDL, hD1, hD2⟩
        · exact N2.has p hp
      · rw [List.map_cons, List.nodup_cons]; exact ⟨hDl, N2.nd⟩
  exact codeAny_compStart_dict (loop _ rfl) (W.self 0 _ _ _ hst₁ (loop _ rfl))
end
end
/-! Comp2 -/
section
/-- a source of turns, its iterator made -/
def Src (prog : Program) (w : World) (A : Around) (L : Addr) (g : Heap) (m : Str → Option Value) (led : Lg) (s : Shared) (it : Value) (n : Nat) (PV : Nat → Value → Prop) : Prop :=
  ∃ I fp St, it = .ref I ∧ Walks prog w A I fp [I] n PV St ∧ Fm g L s.heap m ∧ Led g L s.heap led ∧ St 0 s.heap ∧ g.get? I = none ∧ I ≠ L ∧ I ∉ led.map (·.1) ∧ (∀ i h, St i h → ∃ o, h.get? I = some o) ∧ (∀ b ∈ fp, b < s.heap.objs.size)
section
variable {prog : Program} {w : World} {A : Around} {E : Value → Shared → Prop} {s : Shared} {env : Env} {L : Addr} {g : Heap} {m : Str → Option Value} {led : Lg} {Q : Value → Shared → Prop}
theorem src_list {ax : Addr} {vs : List Value} (hh : A.handled = none) (hx : g.IsList ax vs.toArray) (F : Fm g L s.heap m) (N : Led g L s.heap led)
    (h : ∀ it h' tk', Src prog w A L g m led { s with heap := h', toks := tk' } it vs.length (fun i v => vs[i]? = some v) → Q it { s with heap := h', toks := tk' }) : wpAny (model prog w) A (pyIter (.ref ax)) Q E s := by
  have hat : ∀ {h h' : Heap}, h.IsList ax vs.toArray → Sub h h' → h'.IsList ax vs.toArray := fun x k => let ⟨o, ho, r⟩ := x; ⟨o, k _ _ ho, r⟩
  have hx' := hat hx F.keep
  have haxlt : ax < s.heap.objs.size := by obtain ⟨o, ho, _⟩ := hx'; exact Heap.lt_size ho
  have W := Walks.list (prog := prog) (w := w) hh s.heap.objs.size ax (Nat.ne_of_lt haxlt) vs.toArray
  have e1 : vs.toArray.size = vs.length := List.size_toArray
  have e2 : (fun (i : Nat) (v : Value) => vs.toArray[i]? = some v) = fun i v => vs[i]? = some v := by funext i v; rw [List.getElem?_toArray]
  rw [e1, e2] at W
  refine wpAny_pyIter_list hx' ?_
  refine h _ _ s.toks ⟨s.heap.objs.size, _, _, rfl, W, F.sub (sub_push _ _), N.sub (sub_push _ _), ⟨⟨_, Heap.get?_push_size _ rfl, rfl, rfl⟩, hat hx' (sub_push _ _)⟩, get_none F.keep, Nat.ne_of_gt F.lt, N.notNew, fun i h st => ?_, fun b hb => ?_⟩
  · obtain ⟨o, ho, _⟩ := st.1; exact ⟨o, ho⟩
  · rw [Heap.size_push]
    rcases List.mem_cons.mp hb with rfl | hb
    · exact Nat.lt_succ_self _
    · rw [List.mem_singleton.mp hb]; exact Nat.lt_succ_of_lt haxlt
theorem src_rng {rx : Addr} {n : Nat} {t1 t2 t3 : Tok} (hh : A.handled = none) (hn : n ≤ 1000) (hx : s.heap.get? rx = some { cls := .type "range", data := .fields #[.int 0 t1, .int n t2, .int 1 t3] }) (F : Fm g L s.heap m) (N : Led g L s.heap led)
    (h : ∀ it h' tk', Src prog w A L g m led { s with heap := h', toks := tk' } it n (fun i v => ∃ t, v = .int i t) → Q it { s with heap := h', toks := tk' }) : wpAny (model prog w) A (pyIter (.ref rx)) Q E s := by
  have hsz : Builtin.Range.rangeSize 0 (n : Int) 1 = (n : Int) := by unfold Builtin.Range.rangeSize; simp; omega
  have W := Walks.range (prog := prog) (w := w) hh s.heap.objs.size 0 1 n
  have e : ∀ i : Nat, (0 : Int) + (i : Int) * 1 = i := fun i => by omega
  simp only [e] at W
  refine wpAny_pyIter_range hx (small_one (by decide) (by decide) (by omega) (by omega)) ?_
  refine h _ _ s.toks ⟨s.heap.objs.size, _, _, rfl, W, F.sub (sub_push _ _), N.sub (sub_push _ _), ?_, get_none F.keep, Nat.ne_of_gt F.lt, N.notNew, fun i h st => ⟨_, st⟩, fun b hb => ?_⟩
  · show IsRangeIter _ _ _ _ _
    rw [hsz]
    simpa using Heap.get?_push_size _ rfl
  · rw [Heap.size_push, List.mem_singleton.mp hb]; exact Nat.lt_succ_self _
theorem src_keys {ax : Addr} {kvs : List (Str × Value)} (hh : A.handled = none) (hne : (ax == sysModules) = false) (hx : Has g ax (isDct prog w kvs)) (F : Fm g L s.heap m) (N : Led g L s.heap led)
    (h : ∀ it h' tk', Src prog w A L g m led { s with heap := h', toks := tk' } it kvs.length (fun i v => ∃ k t, (kvs.map (·.1))[i]? = some k ∧ v = .str k t) → Q it { s with heap := h', toks := tk' }) : wpAny (model prog w) A (pyIter (.ref ax)) Q E s := by
  have hx' := hx.to (fun o e => F.keep _ _ e)
  have haxlt : ax < s.heap.objs.size := by obtain ⟨o, ho, _⟩ := hx'; exact Heap.lt_size ho
  obtain ⟨ep, hd⟩ := (Heap.dictOf_iff.mpr hx').dictAt
  have W := Walks.dictKeys (prog := prog) (w := w) (knd := PySem.strKind prog w) hh s.heap.objs.size ax (Nat.ne_of_lt haxlt) kvs ep
  have ePV : (fun (i : Nat) (v : Value) => ∃ k x, kvs[i]? = some (k, x) ∧ (PySem.strKind prog w).is k v = true) = fun i v => ∃ k t, (kvs.map (·.1))[i]? = some k ∧ v = .str k t := by
    funext i v
    apply propext
    constructor
    · rintro ⟨k, x, hk, hv⟩
      obtain ⟨t, rfl⟩ := Value.isStrOf_shape hv
      exact ⟨k, t, by rw [List.getElem?_map, hk]; rfl, rfl⟩
    · rintro ⟨k, t, hk, rfl⟩
      rw [List.getElem?_map] at hk
      cases e : kvs[i]? with
      | none => rw [e] at hk; cases hk
      | some p => rw [e] at hk; cases hk; exact ⟨p.1, p.2, rfl, by simp [PySem.strKind, Value.isStrOf]⟩
  rw [ePV] at W
  refine wpAny_pyIter_dict hne hd ?_
  refine h _ _ s.toks ⟨s.heap.objs.size, _, _, rfl, W, F.sub (sub_push _ _), N.sub (sub_push _ _), ⟨⟨_, Heap.get?_push_size _ rfl, rfl, rfl⟩, hd.keep (sub_push _ _)⟩, get_none F.keep, Nat.ne_of_gt F.lt, N.notNew, fun i h st => ?_, fun b hb => ?_⟩
  · obtain ⟨o, ho, _⟩ := st.1; exact ⟨o, ho⟩
  · rw [Heap.size_push]
    rcases List.mem_cons.mp hb with rfl | hb
    · exact Nat.lt_succ_self _
    · rw [List.mem_singleton.mp hb]; exact Nat.lt_succ_of_lt haxlt

variable {cl : List (Str × Addr)} {elt kx vx iter : Expr} {x y : Str} {px py : Pos} {ifs : List Expr} {scope : Scope} {pos spos : Pos}
/-- the turns of a list comprehension -/
def LTurn (prog : Program) (w : World) (A : Around) (env : Env) (scope : Scope) (cl : List (Str × Addr)) (x : Str) (ifs : List Expr) (elt : Expr) (g : Heap) (n : Nat) (PV : Nat → Value → Prop) (P : Nat → Heap → List Value → Prop) (s : Shared) : Prop :=
  ∀ i v h tk g1 gI C u ys, i < n → PV i v → Sub g g1 → Sub g1 gI → P i g1 ys → ys.length ≤ i → Fm gI C h (ov [(x, v)] u) → Led gI C h [] →
      wpAny (model prog w) A (forIn ifs true fun c r => if r = true then do let ok ← isTrue c (compEnvC scope cl C env) (eval c (compEnvC scope cl C env)); pure (ForInStep.yield ok) else pure (ForInStep.yield r))
        (fun ok s₃ => if ok = true then wpAny (model prog w) A (eval elt (compEnvC scope cl C env)) (fun y s₄ => EltEnd g1 gI C (fun g2 => P (i + 1) g2 (ys ++ [y])) s s₄) (fun _ _ => False) s₃ else EltEnd g1 gI C (fun g2 => P (i + 1) g2 ys) s s₃) (fun _ _ => False) { s with heap := h, toks := tk }
def DTurn (prog : Program) (w : World) (A : Around) (env : Env) (scope : Scope) (cl : List (Str × Addr)) (x : Str) (ifs : List Expr) (kx vx : Expr) (g : Heap) (n : Nat) (PV : Nat → Value → Prop) (P : Nat → Heap → List (Str × Value) → Prop) (s : Shared) : Prop :=
  ∀ i v h tk g1 gI C u ys, i < n → PV i v → Sub g g1 → Sub g1 gI → P i g1 ys → ys.length ≤ i → Fm gI C h (ov [(x, v)] u) → Led gI C h [] →
      wpAny (model prog w) A (forIn ifs true fun c r => if r = true then do let ok ← isTrue c (compEnvC scope cl C env) (eval c (compEnvC scope cl C env)); pure (ForInStep.yield ok) else pure (ForInStep.yield r))
        (fun ok s₃ => if ok = true then wpAny (model prog w) A (eval kx (compEnvC scope cl C env)) (fun kv s₄ => wpAny (model prog w) A (eval vx (compEnvC scope cl C env)) (fun y s₅ => ∃ key kt, kv = .str key kt ∧ key ∉ ys.map (·.1) ∧ EltEnd g1 gI C (fun g2 => P (i + 1) g2 (ys ++ [(key, y)])) s s₅) (fun _ _ => False) s₄) (fun _ _ => False) s₃ else EltEnd g1 gI C (fun g2 => P (i + 1) g2 ys) s s₃) (fun _ _ => False) { s with heap := h, toks := tk }
theorem frame_let {g1 h' h'' : Heap} {C D : Addr} {P : Obj → Prop} (F : Fm g1 L h' m) (N : Led g1 L h' ((D, P) :: led)) (hC : g1.get? C = none) (hCL : C ≠ L) (hCD : C ≠ D) (hCl : C ∉ led.map (·.1)) (hs : Heap.SameBut C h' h'') : Fm g1 L h'' m ∧ Led g1 L h'' ((D, P) :: led) :=
  ⟨F.after (keeps_same hs) (by simpa using hC) (by simpa using Ne.symm hCL), N.after (keeps_same hs) (fun p hp q => by
    rcases List.mem_cons.mp hp with rfl | hp
    · exact hCD (List.mem_singleton.mp q).symm
    · exact hCl (List.mem_singleton.mp q ▸ List.mem_map_of_mem hp))⟩
theorem lcomp_eval (hclos : closureFor scope env = pure cl) (hcell : ∀ y ∈ scope.names, y.2 ≠ .cell) (hkind : scope.kind = .function)
    (hnames : ∀ y ∈ scope.names, y.2 = .local → scope.names.lookup y.1 = some .local) (hx : scope.names.lookup x = some .local)
    (h : wpAny (model prog w) A (eval iter env) (fun xv s₁ => wpAny (model prog w) A (pyIter xv) (fun it s₂ => ∃ g m led n PV, ∃ P : Nat → Heap → List Value → Prop, Src prog w A env.locals g m led s₂ it n PV ∧ n ≤ sizeLine ∧ P 0 g [] ∧ LTurn prog w A env scope cl x ifs elt g n PV P s₂ ∧
      (∀ D h' tk g1 ys, Sub g g1 → P n g1 ys → Fm g1 env.locals h' m → Led g1 env.locals h' ((D, isLst ys) :: led) → Q (.ref D) { s₂ with heap := h', toks := tk })) E s₁) E s)
    (hs : ∀ x, foldedSetIterable iter env x = pure x := by intro _; rfl) :
    wpAny (model prog w) A (eval (.ListComp elt [⟨.Name x px, iter, ifs, 0⟩] scope pos) env) Q E s := by
  rw [eval_ListComp]
  refine wpAny_comprehension_free (use := none) rfl hs hclos hkind hnames (wpAny_mono h (fun xv s₁ h₁ => wpAny_mono h₁ (fun it s₂ h₂ => ?_) fun _ _ e => e) fun _ _ e => e)
  obtain ⟨g, m, led, n, PV, P, ⟨I, fp, St, rfl, W, F, N, hst, hIg, hIL, hIl, hI, hfp⟩, hsz, hP, turn, hQ⟩ := h₂
  refine lcomp_core (RR := fun acc C => compPost (model prog w) A E none Q acc C) W hsz P F N hP hst hIg hIL hIl hI hfp hcell hkind hx turn ?_
  intro D C h' tk g1 ys mC k hp F1 N1 hC hCL hCD hCl hnC
  refine ⟨mC, hnC, fun h'' hs'' => ?_⟩
  obtain ⟨F2, N2⟩ := frame_let F1 N1 hC hCL hCD hCl hs''
  exact hQ D h'' tk g1 ys k hp F2 N2
theorem lcomp_asg (hsw : swapsWith (.ListComp elt [⟨.Name x px, iter, ifs, 0⟩] scope pos) (some (.Name y py)) spos.line env = pure true)
    (hclos : closureFor scope env = pure cl) (hcell : ∀ y ∈ scope.names, y.2 ≠ .cell) (hkind : scope.kind = .function)
    (hnames : ∀ y ∈ scope.names, y.2 = .local → scope.names.lookup y.1 = some .local) (hx : scope.names.lookup x = some .local) {Q : Flow → Shared → Prop}
    (h : wpAny (model prog w) A (eval iter env) (fun xv s₁ => wpAny (model prog w) A (pyIter xv) (fun it s₂ => ∃ g m led n PV, ∃ P : Nat → Heap → List Value → Prop, Src prog w A env.locals g m led s₂ it n PV ∧ n ≤ sizeLine ∧ P 0 g [] ∧ LTurn prog w A env scope cl x ifs elt g n PV P s₂ ∧
      (∀ C D h' tk g1 ys mC, Sub g g1 → P n g1 ys → Fm g1 env.locals h' m → Led g1 env.locals h' ((D, isLst ys) :: led) → g1.get? C = none → C ≠ env.locals → C ≠ D → C ∉ led.map (·.1) → h'.Ns C mC →
        wpAny (model prog w) A (storeName env y (.ref D)) (fun _ s'' => ∃ m, s''.heap.Ns C m ∧ ∀ h', Heap.SameBut C s''.heap h' → Q .next { s'' with heap := h' }) E { s₂ with heap := h', toks := tk })) E s₁) E s)
    (hs : ∀ x, foldedSetIterable iter env x = pure x := by intro _; rfl) :
    wpAny (model prog w) A (exec (.Assign [.Name y py] (.ListComp elt [⟨.Name x px, iter, ifs, 0⟩] scope pos) spos) env) Q E s := by
  rw [exec_Assign_Name_used _ _ _ _ hsw]
  refine wpAny_bind (wpAny_standAt (wpAny_bind ?_))
  show wpAny _ A (do let _ ← comprehension (.ListComp elt [⟨.Name x px, iter, ifs, 0⟩] scope pos) scope env _ (newList []) false (eval iter env) (some (assign (.Name y py) env))) _ _ s
  refine wpAny_bind (wpAny_mono (wpAny_comprehension_free (use := some (assign (.Name y py) env)) (Q := fun _ s' => Q .next s') rfl hs hclos hkind hnames
    (wpAny_mono h (fun xv s₁ h₁ => wpAny_mono h₁ (fun it s₂ h₂ => ?_) fun _ _ e => e) fun _ _ e => e)) (fun _ s' hq => wpAny_pure (wpAny_pure hq)) fun _ _ e => e)
  obtain ⟨g, m, led, n, PV, P, ⟨I, fp, St, rfl, W, F, N, hst, hIg, hIL, hIl, hI, hfp⟩, hsz, hP, turn, hQ⟩ := h₂
  refine lcomp_core (RR := fun acc C => compPost (model prog w) A E (some (assign (.Name y py) env)) (fun _ s' => Q .next s') acc C) W hsz P F N hP hst hIg hIL hIl hI hfp hcell hkind hx turn ?_
  intro D C h' tk g1 ys mC k hp F1 N1 hC hCL hCD hCl hnC
  show wpAny _ A (assign (.Name y py) env (.ref D)) _ _ _
  exact wpAny_assign_Name (hQ C D h' tk g1 ys mC k hp F1 N1 hC hCL hCD hCl hnC)
/-- a local stored behind a comprehension -/
theorem comp_sto {C : Addr} {g1 : Heap} {ps : List (Str × Value)} {u : Str → Option Value} {led' : Lg} {mC : Str → Option Value} {v : Value} {Q : Unit → Shared → Prop} (F : Fm g1 env.locals s.heap (ov ps u)) (N : Led g1 env.locals s.heap led') (hC : g1.get? C = none) (hCL : C ≠ env.locals) (hCl : C ∉ led'.map (·.1)) (hnC : s.heap.Ns C mC)
    (h : ∀ h' tk', Fm g1 env.locals h' (ov ((y, v) :: ps) u) → Led g1 env.locals h' led' → Q () { s with heap := h', toks := tk' })
    (hk : env.scope.kind = .function := by rfl) (hl : env.kindOf y = some .local := by rfl) :
    wpAny (model prog w) A (storeName env y v) (fun a s'' => ∃ m, s''.heap.Ns C m ∧ ∀ h', Heap.SameBut C s''.heap h' → Q a { s'' with heap := h' }) E s := by
  refine wpAny_storeName_local hl F.ns (fun h' hn hs => ⟨mC, hnC.sameBut hs hCL, fun h2 hs2 => ?_⟩) (by rw [hk]; rfl)
  have F1 : Fm g1 env.locals h' (ov ((y, v) :: ps) u) := ⟨ov_set ▸ hn, fun b o e => (hs.2 b (fun (q : b = env.locals) => by rw [q, F.off] at e; cases e)).trans (F.keep b o e), F.off⟩
  have N1 : Led g1 env.locals h' led' := N.to fun b o n e => (hs.2 b n).trans e
  exact h h2 _ (F1.after (keeps_same hs2) (by simpa using hC) (by simpa using Ne.symm hCL)) (N1.after (keeps_same hs2) fun p hp q => hCl (List.mem_singleton.mp q ▸ List.mem_map_of_mem hp))
theorem dcomp_eval (hclos : closureFor scope env = pure cl) (hcell : ∀ y ∈ scope.names, y.2 ≠ .cell) (hkind : scope.kind = .function)
    (hnames : ∀ y ∈ scope.names, y.2 = .local → scope.names.lookup y.1 = some .local) (hx : scope.names.lookup x = some .local)
    (h : wpAny (model prog w) A (eval iter env) (fun xv s₁ => wpAny (model prog w) A (pyIter xv) (fun it s₂ => ∃ g m led n PV, ∃ P : Nat → Heap → List (Str × Value) → Prop, Src prog w A env.locals g m led s₂ it n PV ∧ n ≤ sizeLine ∧ P 0 g [] ∧ DTurn prog w A env scope cl x ifs kx vx g n PV P s₂ ∧
      (∀ D h' tk g1 ys, Sub g g1 → P n g1 ys → Fm g1 env.locals h' m → Led g1 env.locals h' ((D, isDct prog w ys) :: led) → Q (.ref D) { s₂ with heap := h', toks := tk })) E s₁) E s)
    (hs : ∀ x, foldedSetIterable iter env x = pure x := by intro _; rfl) :
    wpAny (model prog w) A (eval (.DictComp kx vx [⟨.Name x px, iter, ifs, 0⟩] scope pos) env) Q E s := by
  rw [arm_eval_DictComp]
  refine wpAny_comprehension_free (use := none) rfl hs hclos hkind hnames (wpAny_mono h (fun xv s₁ h₁ => wpAny_mono h₁ (fun it s₂ h₂ => ?_) fun _ _ e => e) fun _ _ e => e)
  obtain ⟨g, m, led, n, PV, P, ⟨I, fp, St, rfl, W, F, N, hst, hIg, hIL, hIl, hI, hfp⟩, hsz, hP, turn, hQ⟩ := h₂
  refine dcomp_core (RR := fun acc C => compPost (model prog w) A E none Q acc C) W hsz P F N hP hst hIg hIL hIl hI hfp hcell hkind hx turn ?_
  intro D C h' tk g1 ys mC k hp F1 N1 hC hCL hCD hCl hnC
  refine ⟨mC, hnC, fun h'' hs'' => ?_⟩
  obtain ⟨F2, N2⟩ := frame_let F1 N1 hC hCL hCD hCl hs''
  exact hQ D h'' tk g1 ys k hp F2 N2
theorem dcomp_asg (hsw : swapsWith (.DictComp kx vx [⟨.Name x px, iter, ifs, 0⟩] scope pos) (some (.Name y py)) spos.line env = pure true)
    (hclos : closureFor scope env = pure cl) (hcell : ∀ y ∈ scope.names, y.2 ≠ .cell) (hkind : scope.kind = .function)
    (hnames : ∀ y ∈ scope.names, y.2 = .local → scope.names.lookup y.1 = some .local) (hx : scope.names.lookup x = some .local) {Q : Flow → Shared → Prop}
    (h : wpAny (model prog w) A (eval iter env) (fun xv s₁ => wpAny (model prog w) A (pyIter xv) (fun it s₂ => ∃ g m led n PV, ∃ P : Nat → Heap → List (Str × Value) → Prop, Src prog w A env.locals g m led s₂ it n PV ∧ n ≤ sizeLine ∧ P 0 g [] ∧ DTurn prog w A env scope cl x ifs kx vx g n PV P s₂ ∧
      (∀ C D h' tk g1 ys mC, Sub g g1 → P n g1 ys → Fm g1 env.locals h' m → Led g1 env.locals h' ((D, isDct prog w ys) :: led) → g1.get? C = none → C ≠ env.locals → C ≠ D → C ∉ led.map (·.1) → h'.Ns C mC →
        wpAny (model prog w) A (storeName env y (.ref D)) (fun _ s'' => ∃ m, s''.heap.Ns C m ∧ ∀ h', Heap.SameBut C s''.heap h' → Q .next { s'' with heap := h' }) E { s₂ with heap := h', toks := tk })) E s₁) E s)
    (hs : ∀ x, foldedSetIterable iter env x = pure x := by intro _; rfl) :
    wpAny (model prog w) A (exec (.Assign [.Name y py] (.DictComp kx vx [⟨.Name x px, iter, ifs, 0⟩] scope pos) spos) env) Q E s := by
  rw [exec_Assign_Name_used _ _ _ _ hsw]
  refine wpAny_bind (wpAny_standAt (wpAny_bind ?_))
  show wpAny _ A (do let _ ← comprehension (.DictComp kx vx [⟨.Name x px, iter, ifs, 0⟩] scope pos) scope env _ newDict false (eval iter env) (some (assign (.Name y py) env))) _ _ s
  refine wpAny_bind (wpAny_mono (wpAny_comprehension_free (use := some (assign (.Name y py) env)) (Q := fun _ s' => Q .next s') rfl hs hclos hkind hnames
    (wpAny_mono h (fun xv s₁ h₁ => wpAny_mono h₁ (fun it s₂ h₂ => ?_) fun _ _ e => e) fun _ _ e => e)) (fun _ s' hq => wpAny_pure (wpAny_pure hq)) fun _ _ e => e)
  obtain ⟨g, m, led, n, PV, P, ⟨I, fp, St, rfl, W, F, N, hst, hIg, hIL, hIl, hI, hfp⟩, hsz, hP, turn, hQ⟩ := h₂
  refine dcomp_core (RR := fun acc C => compPost (model prog w) A E (some (assign (.Name y py) env)) (fun _ s' => Q .next s') acc C) W hsz P F N hP hst hIg hIL hIl hI hfp hcell hkind hx turn ?_
  intro D C h' tk g1 ys mC k hp F1 N1 hC hCL hCD hCl hnC
  show wpAny _ A (assign (.Name y py) env (.ref D)) _ _ _
  exact wpAny_assign_Name (hQ C D h' tk g1 ys mC k hp F1 N1 hC hCL hCD hCl hnC)
end
end
/-! Lst2 -/
section
theorem Fm.lst {g h : Heap} {L a : Addr} {m : Str → Option Value} {items : Array Value} (F : Fm g L h m) (x : g.IsList a items) : h.IsList a items := let ⟨o, ho, r⟩ := x; ⟨o, F.keep _ _ ho, r⟩
theorem Sub.lst {g h : Heap} {a : Addr} {items : Array Value} (k : Sub g h) (x : g.IsList a items) : h.IsList a items := let ⟨o, ho, r⟩ := x; ⟨o, k _ _ ho, r⟩
theorem hide_lst {h : Heap} {a : Addr} {items : Array Value} (x : h.IsList a items) : (hideAll h []).IsList a items := let ⟨o, ho, r⟩ := x; ⟨o, hideAll_get [] ho (by simp), r⟩
theorem hide_has {h : Heap} {a : Addr} {P : Obj → Prop} (x : Has h a P) : Has (hideAll h []) a P := let ⟨o, ho, r⟩ := x; ⟨o, hideAll_get [] ho (by simp), r⟩
theorem Sub.has {g h : Heap} {a : Addr} {P : Obj → Prop} (k : Sub g h) (x : Has g a P) : Has h a P := let ⟨o, ho, r⟩ := x; ⟨o, k _ _ ho, r⟩
def LCells : Prop := True
theorem lcells : LCells := trivial
def LSlice : Prop := True
theorem lslice : LSlice := trivial
def intValues (l : List (Int × Tok)) : List Value := l.map fun p => .int p.1 p.2
theorem intValues_of : ∀ {vs : List Value} {ns : List Int}, IntsAre vs ns → ∃ l, vs = intValues l ∧ l.map (·.1) = ns
  | _, _, .nil => ⟨[], rfl, rfl⟩
  | _, _, .cons n t h => by
    obtain ⟨l, rfl, rfl⟩ := intValues_of h
    exact ⟨(n, t) :: l, rfl, rfl⟩
theorem intValues_len {l : List (Int × Tok)} : (intValues l).length = l.length := by unfold intValues; simp
theorem intValues_get {l : List (Int × Tok)} {ns : List Int} (h : l.map (·.1) = ns) {i : Nat} {n : Int} (hi : ns[i]? = some n) : ∃ t, (intValues l)[i]? = some (.int n t) := by
  subst h
  rw [List.getElem?_map] at hi
  cases e : l[i]? with
  | none => rw [e] at hi; cases hi
  | some p => rw [e] at hi; cases hi; exact ⟨p.2, by unfold intValues; rw [List.getElem?_map, e]; rfl⟩
theorem strValues_get {l : List (Str × Tok)} {ns : List Str} (h : l.map (·.1) = ns) {i : Nat} {n : Str} (hi : ns[i]? = some n) : ∃ t, (strValues l)[i]? = some (.str n t) := by
  subst h
  rw [List.getElem?_map] at hi
  cases e : l[i]? with
  | none => rw [e] at hi; cases hi
  | some p => rw [e] at hi; cases hi; exact ⟨p.2, by unfold strValues; rw [List.getElem?_map, e]; rfl⟩
theorem pick_upto (vs : List Value) (b : Nat) : (slicePick vs.toArray none (some b) none) = (vs.take b).toArray := by
  by_cases h : b ≤ vs.length
  · rw [slicePick_upto _ _ (by simpa using h)]
  · have h2 := slicePick_upto vs.toArray vs.length (by simp)
    have e : slicePick vs.toArray none (some (b : Int)) none = slicePick vs.toArray none (some (vs.length : Int)) none := by
      unfold slicePick
      have : sliceBounds none (some (b : Int)) none vs.toArray.size = sliceBounds none (some (vs.length : Int)) none vs.toArray.size := by
        simp only [sliceBounds, Option.getD_none]
        have h2 : ¬ ((b : Int) < 0) := by omega
        have h3 : ¬ ((vs.length : Int) < 0) := by omega
        simp only [h2, h3, if_false, show (1 : Int) > 0 by decide, if_true, List.size_toArray]
        congr 2; omega
      rw [this]
    rw [e, h2, List.take_of_length_le (by simp), List.take_of_length_le (by omega)]
theorem pick_from (vs : List Value) (a : Nat) (ha : a ≤ vs.length) : (slicePick vs.toArray (some a) none none) = (vs.drop a).toArray := by
  rw [slicePick_from _ _ (by simpa using ha)]
section
variable {prog : Program} {w : World} {A : Around} {E : Value → Shared → Prop} {s : Shared} {env : Env} {g : Heap} {L : Addr} {m : Str → Option Value} {led : Lg} {Q : Value → Shared → Prop}
def SliceL (o vl vu : Value) (Q : Value → Shared → Prop) (s₃ : Shared) : Prop :=
  ∃ l vs lo hi, o = .ref l ∧ s₃.heap.IsList l vs ∧ vs.size ≤ sizeLine ∧ IsPart vl lo ∧ IsPart vu hi ∧ ∀ h', h' = (s₃.heap.push { cls := .type "slice", data := .fields #[vl, vu, .none] }).push { cls := .type "list", data := .seq (slicePick vs lo hi none) } → Q (.ref (s₃.heap.objs.size + 1)) { s₃ with heap := h' }
theorem sub_slice_lst {value : Expr} {lower upper : Option Expr} {p pos : Pos}
    (h : wpAny (model prog w) A (eval value env) (fun o s₁ => wpAny (model prog w) A (evalPart lower env) (fun vl s₂ => wpAny (model prog w) A (evalPart upper env) (fun vu s₃ => SliceL o vl vu Q s₃) E s₂) E s₁) E s)
    (ht : ∀ o r, letTemporaryGo value o r = pure ()) :
    wpAny (model prog w) A (eval (.Subscript value (.Slice lower upper none p) pos) env) Q E s := by
  refine wpAny_Subscript_list_slice (wpAny_mono h (fun o s₁ h₁ => wpAny_mono h₁ (fun vl s₂ h₂ => wpAny_mono h₂ (fun vu s₃ h₃ => ?_) fun _ _ e => e) fun _ _ e => e) fun _ _ e => e) ht
  obtain ⟨l, vs, lo, hi, rfl, hl, hz, pl, pu, hq⟩ := h₃
  exact ⟨l, vs, lo, hi, rfl, hl, hz, pl, pu, hq _ rfl⟩
theorem push_two {o1 o2 : Obj} (F : Fm g L s.heap m) (N : Led g L s.heap led) (P : Obj → Prop) (hP : P o2) (hf : o2.isFreed = false) :
    Fm g L ((s.heap.push o1).push o2) m ∧ Led g L ((s.heap.push o1).push o2) ((s.heap.objs.size + 1, P) :: led) := by
  have F1 := F.sub (sub_push s.heap o1)
  have N1 := N.sub (sub_push s.heap o1)
  have := N1.new F1 o2 P hP hf
  rw [Heap.size_push] at this
  exact ⟨F1.sub (sub_push _ _), this⟩
theorem ll_upto {l : Addr} {vs : List Value} {b : Nat} {t : Tok} (F : Fm g L s.heap m) (N : Led g L s.heap led) (hl : s.heap.IsList l vs.toArray) (hz : vs.length ≤ sizeLine)
    (h : ∀ a h', Fm g L h' m → Led g L h' ((a, isLst (vs.take b)) :: led) → Q (.ref a) { s with heap := h' }) : SliceL (.ref l) .none (.int b t) Q s := by
  refine ⟨l, vs.toArray, none, some b, rfl, hl, by simpa using hz, .none, .int _ _, fun h' e => ?_⟩
  subst e
  obtain ⟨F1, N1⟩ := push_two (o1 := { cls := .type "slice", data := .fields #[.none, .int b t, .none] }) (o2 := { cls := .type "list", data := .seq (slicePick vs.toArray none (some b) none) }) F N (isLst (vs.take b)) ⟨0, by rw [pick_upto]⟩ rfl
  exact h _ _ F1 N1
theorem ll_from {l : Addr} {vs : List Value} {b : Nat} {t : Tok} (F : Fm g L s.heap m) (N : Led g L s.heap led) (hl : s.heap.IsList l vs.toArray) (hb : b ≤ vs.length) (hz : vs.length ≤ sizeLine)
    (h : ∀ a h', Fm g L h' m → Led g L h' ((a, isLst (vs.drop b)) :: led) → Q (.ref a) { s with heap := h' }) : SliceL (.ref l) (.int b t) .none Q s := by
  refine ⟨l, vs.toArray, some b, none, rfl, hl, by simpa using hz, .int _ _, .none, fun h' e => ?_⟩
  subst e
  obtain ⟨F1, N1⟩ := push_two (o1 := { cls := .type "slice", data := .fields #[.int b t, .none, .none] }) (o2 := { cls := .type "list", data := .seq (slicePick vs.toArray (some b) none none) }) F N (isLst (vs.drop b)) ⟨0, by rw [pick_from _ _ hb]⟩ rfl
  exact h _ _ F1 N1
theorem addL {l b : Addr} {vs ws : List Value} (F : Fm g L s.heap m) (N : Led g L s.heap led) (hl : s.heap.IsList l vs.toArray) (hb : s.heap.IsList b ws.toArray) (hsz : vs.length + ws.length ≤ sizeLine)
    (h : ∀ a h', Fm g L h' m → Led g L h' ((a, isLst (vs ++ ws)) :: led) → Q (.ref a) { s with heap := h' }) : wpAny (model prog w) A (binaryOp .Add (.ref l) (.ref b)) Q E s := by
  obtain ⟨⟨cls, dd, data, sl⟩, ho, hc, n, hd⟩ := id hl
  obtain ⟨⟨cls2, dd2, data2, sl2⟩, ho2, hc2, n2, hd2⟩ := id hb
  simp only at hc hd hc2 hd2
  subst hc hd hc2 hd2
  have e : vs.toArray ++ ws.toArray = (vs ++ ws).toArray := by simp
  refine concat_meets ⟨_, ho, rfl⟩ ⟨_, ho2, rfl⟩ noFill_list_add seq_list_add PySem.F.slot_list_add PySem.F.entry_list_add (PySem.F.args_list_add_2 _ _) (list_addW l b vs.toArray ws.toArray n n2 dd dd2 sl sl2 (by simpa using hsz)) ⟨ho, ho2, ?_⟩
  rw [e]
  exact h _ _ (F.sub (sub_push _ _)) (N.new F _ _ ⟨0, rfl⟩ rfl)
theorem cases5 : ∀ j, j < 5 → j = 0 ∨ j = 1 ∨ j = 2 ∨ j = 3 ∨ j = 4 := by decide
theorem cases12 : ∀ b, b < 12 → b = 0 ∨ b = 1 ∨ b = 2 ∨ b = 3 ∨ b = 4 ∨ b = 5 ∨ b = 6 ∨ b = 7 ∨ b = 8 ∨ b = 9 ∨ b = 10 ∨ b = 11 := by decide
theorem pow10 {t u : Tok} (h : ∀ t' tk, Q (.int 1000000 t') { s with toks := tk }) : wpAny (model prog w) A (binaryOp .Pow (.int 10 t) (.int 6 u)) Q E s :=
  AutoIntOps.pow_4 (by decide) (by decide) (by decide) (by decide) (by decide) (h _ _)
theorem pow2 {b : Nat} {t u : Tok} (hb : b < 12) (h : ∀ t' tk, Q (.int ((2 ^ b : Nat) : Int) t') { s with toks := tk }) : wpAny (model prog w) A (binaryOp .Pow (.int 2 t) (.int b u)) Q E s := by
  rcases cases12 b hb with rfl | rfl | rfl | rfl | rfl | rfl | rfl | rfl | rfl | rfl | rfl | rfl
  · exact AutoIntOps.pow_0 (by decide) (by decide) (h _ _)
  all_goals exact AutoIntOps.pow_4 (by decide) (by decide) (by decide) (by decide) (by decide) (h _ _)
theorem intC {a : Int} {t : Tok} (h : Q (.int a t) s) : wpAny (model prog w) A (call (.type "int") [.int a t]) Q E s := call_int_int h
theorem rangeC {n : Nat} {t : Tok} (F : Fm g L s.heap m) (N : Led g L s.heap led) (h : ∀ a h' t1 t3 tk, Fm g L h' m → Led g L h' led → h'.get? a = some { cls := .type "range", data := .fields #[.int 0 t1, .int n t, .int 1 t3] } → Q (.ref a) { s with heap := h', toks := tk }) :
    wpAny (model prog w) A (call (.type "range") [.int n t]) Q E s := by
  refine call_range_1 ?_
  exact h _ _ _ _ _ (F.sub (sub_push _ _)) (N.sub (sub_push _ _)) (Heap.get?_push_size _ rfl)
/-- a cut of a list that may be a display -/
theorem slice_tail {value : Expr} {lower upper : Option Expr} {p : Pos} {o : Value} (h : wpAny (model prog w) A (evalPart lower env) (fun vl s₂ => wpAny (model prog w) A (evalPart upper env) (fun vu s₃ => SliceL o vl vu Q s₃) E s₂) E s)
    (hs : ∀ o i, subscripted (.Slice lower upper none p) false o i = operate [i, o] (getItem o i)) :
    wpAny (model prog w) A (eval (.Slice lower upper none p) env) (fun i s₂ => wpAny (model prog w) A (subscriptTail value (.Slice lower upper none p) o i) Q E s₂) E s := by
  refine wpAny_Slice (wpAny_mono h (fun vl s₂ h₂ => wpAny_mono h₂ (fun vu s₃ h₃ => ?_) fun _ _ e => e) fun _ _ e => e)
  obtain ⟨l, vs, lo, hi, rfl, hl, hz, pl, pu, hq⟩ := h₃
  rw [evalPart_none]
  refine wpAny_pure ?_
  refine tail_any (hl.push _).typeIs slot_list_getitem.lookup (wpAny_getItem_list_slice (hl.push _) (Heap.IsSliceOf.new ..) pl pu .none (by simp) ?_ hz) (hs _ _)
  rw [Heap.size_push]
  exact hq _ rfl
end
end
/-! Norm -/
section
open PySem.Builtin PySem.Builtin.Str
def normStep (acc : List Str) (c : Str) : List Str :=
  if c.length = 0 ∨ c.cps.toList = (Str.ofString ".").cps.toList then acc
  else if c.cps.toList ≠ (Str.ofString "..").cps.toList ∨ (acc ≠ [] ∧ acc.getLast?.map (·.cps.toList) = some (Str.ofString "..").cps.toList) then acc ++ [c]
  else acc.dropLast
def normList (p : Str) : List Str := (Txt.split (splitF p).2 (Str.ofString "/")).foldl normStep []
def normF (p : Str) : Str := (splitF p).1 ++ Txt.join (Str.ofString "/") (normList p)
/-- what the walk asks of a path -/
def normOk (p : Str) : Bool := decide (p.length ≠ 0) && decide (p.length ≤ 1000) && decide ((splitF p).1.length ≠ 0) && decide ((splitF p).2.length ≤ 1000) && decide ((partsBetween (splitF p).2 (occurrences (splitF p).2 (Str.ofString "/") 0 (splitF p).2.length ((splitF p).2.length + 1)) (Str.ofString "/").length).length ≤ 1000) &&
  decide ((Txt.split (splitF p).2 (Str.ofString "/")).length ≤ 1000) && decide (∀ c ∈ Txt.split (splitF p).2 (Str.ofString "/"), c.length ≤ 1000) && JoinOk (Str.ofString "/") (normList p) && decide ((splitF p).1.length + (Txt.join (Str.ofString "/") (normList p)).length ≤ 1000)
def NormSt (a' : Addr) (ini : Str) (l : List (Str × Tok)) (i : Nat) (ps : List (Str × Value)) (led : Lg) : Prop :=
  ∃ t1 t2 t3 t4, ∃ l' : List (Str × Tok), ps = [(Str.ofString "new_comps", .ref a'), (Str.ofString "initial_slashes", .str ini t1), (Str.ofString "dotdot", .str (Str.ofString "..") t2), (Str.ofString "dot", .str (Str.ofString ".") t3), (Str.ofString "sep", .str (Str.ofString "/") t4)] ∧
    led = [(a', isLst (strValues l'))] ∧ l'.map (·.1) = ((l.take i).map (·.1)).foldl normStep [] ∧ l'.length ≤ i
theorem NormSt.fin {g1 gI : Heap} {L a' : Addr} {ini : Str} {l l' l2 : List (Str × Tok)} {i : Nat} {h' : Heap} {tk' : Nat} {s₀ : Shared} {ps : List (Str × Value)} {u4 : Str → Option Value} {q1 q2 q3 q4 : Tok} {c : Str × Tok} {vs : List Value} (hc : l[i]? = some c) (hl' : l'.map (·.1) = ((l.take i).map (·.1)).foldl normStep [])
    (F : Fm gI L h' (ov ps u4)) (N : Led gI L h' [(a', isLst (strValues l2))])
    (e1 : [Str.ofString "new_comps", Str.ofString "initial_slashes", Str.ofString "dotdot", Str.ofString "dot", Str.ofString "sep"].map (fun x => ps.lookup x) = [some (.ref a'), some (.str ini q1), some (.str (Str.ofString "..") q2), some (.str (Str.ofString ".") q3), some (.str (Str.ofString "/") q4)])
    (e2 : l2.map (·.1) = normStep (l'.map (·.1)) c.1) (e3 : l2.length ≤ i + 1) :
    TurnEnd g1 gI L (List.map (fun x => x.fst) [(a', isLst vs)]) (fun _ ps led => NormSt a' ini l (i + 1) ps led) s₀ { s₀ with heap := h', toks := tk' } := by
  have hstep : ((l.take (i + 1)).map (·.1)).foldl normStep [] = normStep (l'.map (·.1)) c.1 := by
    rw [hl', List.take_add_one, hc]; simp
  obtain ⟨u5, F5⟩ := F.sel [(Str.ofString "new_comps", .ref a'), (Str.ofString "initial_slashes", .str ini q1), (Str.ofString "dotdot", .str (Str.ofString "..") q2), (Str.ofString "dot", .str (Str.ofString ".") q3), (Str.ofString "sep", .str (Str.ofString "/") q4)] (by simpa using e1)
  exact ⟨_, _, _, u5, [], [(a', isLst (strValues l2))], rfl, F5, N, rfl, fun _ _ _ => ⟨q1, q2, q3, q4, l2, rfl, rfl, by rw [hstep, e2], e3⟩⟩
section
variable {prog : Program} {w : World} {A : Around} {E : Value → Shared → Prop} {s : Shared} {hT : Heap} {mg mb : Str → Option Value}
theorem norm_spec {p : Str} {t : Tok} {Q : Value → Shared → Prop} (O : Ok w mg mb hT) (kT : Sub hT s.heap) (R : Room A 3) (ok : normOk p = true)
    (h : ∀ h' tk' t', Sub s.heap h' → Q (.str (normF p) t') { s with heap := h', toks := tk' }) :
    wpAny (model prog w) A (call (.ref 136) [.str p t]) Q E s := by
  unfold normOk at ok
  simp only [Bool.and_eq_true, decide_eq_true_eq] at ok
  obtain ⟨⟨⟨⟨⟨⟨⟨⟨ok0, ok1⟩, ok2⟩, ok3⟩, ok4⟩, ok5⟩, ok8⟩, ok6⟩, ok7⟩ := ok
  have hsl : sizeLine = 16777216 := rfl
  have hN : normF p = (splitF p).1 ++ Txt.join (Str.ofString "/") (normList p) := rfl
  have hL : normList p = (Txt.split (splitF p).2 (Str.ofString "/")).foldl normStep [] := rfl
  rw [hN] at h
  have A4 : Unit → (partsBetween (splitF p).2 (occurrences (splitF p).2 (Str.ofString "/") 0 (splitF p).2.length ((splitF p).2.length + 1)) (Str.ofString "/").length).length ≤ sizeLine := fun _ => by omega
  clear ok4 hN
  generalize normList p = nl at h ok6 ok7 hL
  generalize hsp : splitF p = sp at h ok2 ok3 ok5 ok8 ok7 hL A4
  generalize hcs : Txt.split sp.2 (Str.ofString "/") = cs at ok5 ok8 hL
  generalize hjn : Txt.join (Str.ofString "/") nl = jn at ok7 h
  refine enter [(Str.ofString "path", .str p t)].reverse [] [] O kT (by simp) rfl rfl R.depth (by simp) (by simp) rfl (locs rfl) ?_
  intro L h₁ tk O' F N
  rw [List.reverse_reverse] at F
  refine wpAny_execs_cons ?_
  refine wpAny_Assign_Name ?_ (by with_unfolding_all rfl)
  refine Call_ ?_ (by with_unfolding_all rfl)
  refine qgl (gn_fspath _) ?_
  refine qfn (kp_fspath _) ?_
  refine args_cons ?_ (by with_unfolding_all rfl)
  refine qlo ?_
  refine args_nil ?_
  refine ⟨Fm.keep (by assumption), ?_⟩
  refine fspath_call (by assumption) (by assumption) (by assumption) (by walk_at "room") ?_; intro h' tk' F' N'
  refine qst ?_; intro h' tk' F' N'
  refine wpAny_execs_cons ?_
  refine wpAny_If ?_
  refine isTrue_plain ?_ (by with_unfolding_all rfl)
  refine Call_ ?_ (by with_unfolding_all rfl)
  refine qbl (gn_isinstance _) boot_isinstance ?_
  refine callWith_builtin1 ?_ (by with_unfolding_all rfl) (by with_unfolding_all rfl)
  refine args_cons ?_ (by with_unfolding_all rfl)
  refine qlo ?_
  refine args_cons ?_ (by with_unfolding_all rfl)
  refine qbl (gn_bytes _) boot_bytes ?_
  refine args_nil ?_
  refine isi_bytes ?_; intro k'
  refine wpAny_truthy_bool ?_
  refine itb_f rfl ?_
  refine wpAny_execs_cons ?_
  refine wpAny_Assign_Name ?_ (by with_unfolding_all rfl)
  refine cst_str ?_; intro t' k'
  refine qst ?_; intro h' tk' F' N'
  refine wpAny_execs_cons ?_
  refine wpAny_Assign_Name ?_ (by with_unfolding_all rfl)
  refine cst_str ?_; intro t' k'
  refine qst ?_; intro h' tk' F' N'
  refine wpAny_execs_cons ?_
  refine wpAny_Assign_Name ?_ (by with_unfolding_all rfl)
  refine cst_str ?_; intro t' k'
  refine qst ?_; intro h' tk' F' N'
  refine wpAny_execs_nil ?_
  refine wpAny_execs_cons ?_
  refine wpAny_If ?_
  refine isTrue_not ?_
  refine isTrue_plain ?_ (by with_unfolding_all rfl)
  refine qlo ?_
  refine truthyS (by walk_at "size") ?_; intro k'
  dsimp only
  refine itb_f (by simpa using ok0) ?_
  refine wpAny_execs_nil ?_
  refine wpAny_execs_cons ?_
  refine Assign_Tuple ?_ (by with_unfolding_all rfl) (by with_unfolding_all rfl)
  refine Call_ ?_ (by with_unfolding_all rfl)
  refine qgl (gn_splitroot _) ?_
  refine qfn (kp_splitroot _) ?_
  refine args_cons ?_ (by with_unfolding_all rfl)
  refine qlo ?_
  refine args_nil ?_
  refine ⟨Fm.keep (by assumption), ?_⟩
  refine splitroot_call (by assumption) (by assumption) (by assumption) (by walk_at "room") (by walk_at "size") ?_; intro h' tk' a' t1' t2' t3' F' N' H'
  dsimp only
  rw [hsp] at H'
  refine asg3 (by assumption) (by assumption) R.hh ⟨_, H', rfl, 0, rfl⟩ ?_ (by with_unfolding_all rfl) (by with_unfolding_all rfl)
  intro h' F' N'
  refine wpAny_assign_Name ?_
  refine qst ?_; intro h' tk' F' N'
  refine wpAny_assign_Name ?_
  refine qst ?_; intro h' tk' F' N'
  refine wpAny_assign_Name ?_
  refine qst ?_; intro h' tk' F' N'
  refine wpAny_execs_cons ?_
  refine wpAny_Assign_Name ?_ (by with_unfolding_all rfl)
  refine callStr PySem.F.slot_str_split PySem.F.type_str_split ?_ (by with_unfolding_all rfl) (by with_unfolding_all rfl) (by with_unfolding_all rfl)
  refine qlo ?_
  refine ⟨_, _, rfl, ?_⟩
  refine args_cons ?_ (by with_unfolding_all rfl)
  refine qlo ?_
  refine args_nil ?_
  dsimp only
  refine splitS (by decide) (by omega) (A4 ()) ?_
  intro D l h2 tk2 hl k2 hD
  rw [hcs] at hl
  have F2 := F'.sub k2
  have N2 := N'.sub k2
  obtain ⟨g3, F3, N3, k3, kD⟩ := refreeze F2 N2
  have hD3 : g3.IsList D (strValues l).toArray := has_isList hD fun o e => kD _ _ (list_ne hD F2.ns) (by simp) e
  refine qst ?_; intro h' tk' F' N'
  refine wpAny_execs_cons ?_
  refine wpAny_Assign_Name ?_ (by with_unfolding_all rfl)
  refine List_ ?_
  refine args_nil ?_
  refine newLst (by assumption) (by assumption) (by with_unfolding_all exact Nat.le_of_ble_eq_true rfl) ?_; intro a' h' F' N'
  refine qst ?_; intro h' tk' F' N'
  refine wpAny_execs_cons ?_
  refine wpAny_For ?_ (by intro _; with_unfolding_all rfl)
  refine qlo ?_
  dsimp only
  obtain ⟨u', F''⟩ := F'.sel [(Str.ofString "new_comps", .ref a'), (Str.ofString "initial_slashes", .str sp.1 t2'), (Str.ofString "dotdot", .str (Str.ofString "..") _), (Str.ofString "dot", .str (Str.ofString ".") _), (Str.ofString "sep", .str (Str.ofString "/") _)] (by with_unfolding_all rfl)
  refine for_list R.hh hD3 (fun i _ ps led => NormSt a' sp.1 l i ps led) F'' N' ⟨_, _, _, _, [], rfl, rfl, by simp, by simp⟩ ?_ ?_
  · rintro i v h4 tk4 g1 gI ps u4 led hi hv k4 kI ⟨q1, q2, q3, q4, l', rfl, rfl, hl', hz'⟩ hd F4 N4
    obtain ⟨c, hc⟩ : ∃ c, l[i]? = some c := by
      unfold strValues at hi; rw [List.length_map] at hi
      exact ⟨_, List.getElem?_eq_getElem hi⟩
    have hv' : v = .str c.1 c.2 := by
      unfold strValues at hv; rw [List.getElem?_map, hc] at hv; cases hv; rfl
    subst hv'
    have hlen : l.length ≤ 1000 := by rw [← hl] at ok5; simpa using ok5
    have hi' : i < l.length := (List.getElem?_eq_some_iff.mp hc).1
    have hcz : c.1.length ≤ 1000 := ok8 _ (by rw [← hl]; exact List.mem_map_of_mem (List.mem_of_getElem? hc))
    have hvz : (strValues l').length = l'.length := by unfold strValues; simp
    have hnil : ∀ tk, isLst (strValues l' ++ [Value.str c.1 tk]) = isLst (strValues (l' ++ [(c.1, tk)])) := by intro tk; unfold strValues; simp
    refine wpAny_assign_Name ?_
    refine qst ?_; intro h' tk' F' N'
    refine wpAny_execs_cons ?_
    refine wpAny_If ?_
    refine isTrue_or ?_
    refine isTrue_not ?_
    refine isTrue_plain ?_ (by with_unfolding_all rfl)
    refine qlo ?_
    refine truthyS (by walk_at "size") ?_; intro k'
    dsimp only
    by_cases c1 : c.1.length = 0
    · refine itb_t (by simpa using c1) ?_
      refine itb_t rfl ?_
      refine wpAny_execs_cons ?_
      refine wpAny_Continue ?_
      dsimp only
      exact NormSt.fin hc hl' F' N' (by with_unfolding_all rfl) (by unfold normStep; rw [if_pos (Or.inl c1)]) (by omega)
    · refine itb_f (by simpa using c1) ?_
      refine isTrue_or ?_
      refine wpAny_isTrue_Compare1 ?_ (by with_unfolding_all rfl)
      refine qlo ?_
      refine qlo ?_
      refine P.eq_str ?_
      refine wpAny_truthy_bool ?_
      by_cases c2 : (c.1.cps.toList == (Str.ofString ".").cps.toList) = true
      · refine itb_t c2 ?_
        refine itb_t rfl ?_
        refine wpAny_execs_cons ?_
        refine wpAny_Continue ?_
        dsimp only
        exact NormSt.fin hc hl' F' N' (by with_unfolding_all rfl) (by unfold normStep; rw [if_pos (Or.inr (by simpa using c2))]) (by omega)
      · refine itb_f (by simpa using c2) ?_
        refine isTrue_or_nil ?_
        refine itb_f rfl ?_
        refine wpAny_execs_nil ?_
        refine wpAny_execs_cons ?_
        refine wpAny_If ?_
        refine isTrue_or ?_
        refine wpAny_isTrue_Compare1 ?_ (by with_unfolding_all rfl)
        refine qlo ?_
        refine qlo ?_
        refine P.ne_str ?_
        refine wpAny_truthy_bool ?_
        have c12 : ¬ (c.1.length = 0 ∨ c.1.cps.toList = (Str.ofString ".").cps.toList) := by
          rintro (q | q)
          · exact c1 q
          · exact c2 (by simpa using q)
        by_cases c3 : (c.1.cps.toList != (Str.ofString "..").cps.toList) = true
        · refine itb_t c3 ?_
          refine itb_t rfl ?_
          refine wpAny_execs_cons ?_
          refine wpAny_Expr ?_ (by with_unfolding_all rfl) (by with_unfolding_all rfl)
          refine callLst PySem.F.slot_list_append PySem.F.type_list_append ?_ (by with_unfolding_all rfl) (by with_unfolding_all rfl) (by with_unfolding_all rfl)
          refine qlo ?_
          refine ⟨_, _, rfl, Led.get (by assumption) 0 (by with_unfolding_all rfl), ?_⟩
          refine args_cons ?_ (by with_unfolding_all rfl)
          refine qlo ?_
          refine args_nil ?_
          dsimp only
          try refine ⟨_, _, rfl, N'.get 0 rfl, ?_⟩
          skip
          refine append_lst (N'.get 0 rfl) (by omega) ?_
          intro h5 H5 k5
          have F5 := F'.upd (N'.ne 0 rfl) (N'.off 0 rfl) k5
          have N5 := N'.upd 0 rfl k5 H5
          rw [List.set_cons_zero, hnil] at N5
          refine wpAny_execs_nil ?_
          refine wpAny_execs_nil ?_
          dsimp only
          exact NormSt.fin hc hl' F5 N5 (by with_unfolding_all rfl) (by unfold normStep; rw [if_neg c12, if_pos (Or.inl (by simpa using c3))]; simp) (by simp; omega)
        · refine itb_f (by simpa using c3) ?_
          refine isTrue_or ?_
          refine isTrue_and ?_
          refine isTrue_not ?_
          refine isTrue_plain ?_ (by with_unfolding_all rfl)
          refine qlo ?_
          refine truthyS (by walk_at "size") ?_; intro k'
          dsimp only
          refine itb_f (by simpa using ok2) ?_
          refine itb_f rfl ?_
          refine isTrue_or ?_
          refine isTrue_and ?_
          refine isTrue_plain ?_ (by with_unfolding_all rfl)
          refine qlo ?_
          refine truthy_lst (N'.get 0 rfl) (by omega) ?_
          intro tk8
          by_cases c4 : l' = []
          · subst c4
            refine ite_f (by unfold strValues; simp) ?_
            refine itb_f rfl ?_
            refine isTrue_or_nil ?_
            refine itb_f rfl ?_
            refine wpAny_execs_cons ?_
            refine wpAny_If ?_
            refine isTrue_plain ?_ (by with_unfolding_all rfl)
            refine qlo ?_
            dsimp only
            refine truthy_lst (N'.get 0 rfl) (by omega) ?_
            intro tk9
            refine ite_f (by unfold strValues; simp) ?_
            refine wpAny_execs_nil ?_
            refine wpAny_execs_nil ?_
            refine wpAny_execs_nil ?_
            dsimp only
            exact NormSt.fin hc hl' F' N' (by with_unfolding_all rfl) (by unfold normStep; rw [if_neg c12, if_neg (by simpa using c3)]; rfl) (by omega)
          · obtain ⟨l3, d, rfl⟩ : ∃ l3 d, l' = l3 ++ [d] := ⟨l'.dropLast, l'.getLast c4, (List.dropLast_concat_getLast c4).symm⟩
            have hl3 : strValues (l3 ++ [d]) = strValues l3 ++ [.str d.1 d.2] := by unfold strValues; simp
            have hv3 : (strValues l3).length = l3.length := by unfold strValues; simp
            have hz3 : l3.length + 1 ≤ i := by simpa using hz'
            refine ite_t (by rw [hl3]; simp) ?_
            refine isTrue_and ?_
            refine wpAny_isTrue_Compare1 ?_ (by with_unfolding_all rfl)
            refine Subscript_ ?_
            refine qlo ?_
            refine UnaryOp_ ?_
            refine cst_int ?_; intro t' k'
            refine negI ?_; intro t' k'
            dsimp only
            rw [hl3] at N'
            refine item_last (N'.get 0 rfl).list (by omega) ?_
            refine qlo ?_
            refine P.eq_str ?_
            refine wpAny_truthy_bool ?_
            by_cases c5 : (d.1.cps.toList == (Str.ofString "..").cps.toList) = true
            · refine itb_t c5 ?_
              refine isTrue_and_nil ?_
              refine itb_t rfl ?_
              refine itb_t rfl ?_
              refine wpAny_execs_cons ?_
              refine wpAny_Expr ?_ (by with_unfolding_all rfl) (by with_unfolding_all rfl)
              refine callLst PySem.F.slot_list_append PySem.F.type_list_append ?_ (by with_unfolding_all rfl) (by with_unfolding_all rfl) (by with_unfolding_all rfl)
              refine qlo ?_
              refine ⟨_, _, rfl, Led.get (by assumption) 0 (by with_unfolding_all rfl), ?_⟩
              refine args_cons ?_ (by with_unfolding_all rfl)
              refine qlo ?_
              refine args_nil ?_
              dsimp only
              try refine ⟨_, _, rfl, N'.get 0 rfl, ?_⟩
              skip
              refine append_lst (N'.get 0 rfl) (by simp; omega) ?_
              intro h5 H5 k5
              have F5 := F'.upd (N'.ne 0 rfl) (N'.off 0 rfl) k5
              have N5 := N'.upd 0 rfl k5 H5
              rw [List.set_cons_zero, ← hl3, hnil] at N5
              refine wpAny_execs_nil ?_
              refine wpAny_execs_nil ?_
              dsimp only
              exact NormSt.fin hc hl' F5 N5 (by with_unfolding_all rfl) (by unfold normStep; rw [if_neg c12, if_pos (Or.inr ⟨by simp, by simpa using c5⟩)]; simp) (by simp; omega)
            · refine itb_f (by simpa using c5) ?_
              refine itb_f rfl ?_
              refine isTrue_or_nil ?_
              refine itb_f rfl ?_
              refine wpAny_execs_cons ?_
              refine wpAny_If ?_
              refine isTrue_plain ?_ (by with_unfolding_all rfl)
              refine qlo ?_
              refine truthy_lst (N'.get 0 rfl) (by simp; omega) ?_
              intro tk9
              refine ite_t (by simp) ?_
              refine wpAny_execs_cons ?_
              refine wpAny_Expr ?_ (by with_unfolding_all rfl) (by with_unfolding_all rfl)
              refine callLst0 PySem.F.slot_list_pop PySem.F.type_list_pop ?_ (by with_unfolding_all rfl)
              refine qlo ?_
              refine ⟨_, _, rfl, Led.get (by assumption) 0 (by with_unfolding_all rfl), ?_⟩
              dsimp only
              try refine ⟨_, _, rfl, N'.get 0 rfl, ?_⟩
              refine pop_lst (N'.get 0 rfl) (by omega) ?_
              intro h5 H5 k5
              have F5 := F'.upd (N'.ne 0 rfl) (N'.off 0 rfl) k5
              have N5 := N'.upd 0 rfl k5 H5
              rw [List.set_cons_zero] at N5
              refine wpAny_execs_nil ?_
              refine wpAny_execs_nil ?_
              refine wpAny_execs_nil ?_
              dsimp only
              exact NormSt.fin hc hl' F5 N5 (by with_unfolding_all rfl) (by
                have nn : ¬(c.1.cps.toList ≠ (Str.ofString "..").cps.toList ∨ List.map (fun x => x.1) (l3 ++ [d]) ≠ [] ∧ (List.map (fun x => x.1) (l3 ++ [d])).getLast?.map (·.cps.toList) = some (Str.ofString "..").cps.toList) := by
                  rintro (q | q)
                  · exact q (by simpa using c3)
                  · exact c5 (by simpa using q.2)
                unfold normStep
                rw [if_neg c12, if_neg nn]
                simp) (by omega)
  · rintro h4 tk4 g1 ps u4 led k4 ⟨q1, q2, q3, q4, l', rfl, rfl, hl', hz'⟩ hd F4 N4
    have hfull : l'.map (·.1) = nl := by
      rw [hl', show (strValues l).length = l.length by unfold strValues; simp, List.take_length, hl]; exact hL.symm
    refine wpAny_execs_nil ?_
    refine wpAny_execs_cons ?_
    refine wpAny_Assign_Name ?_ (by with_unfolding_all rfl)
    refine qlo ?_
    refine qst ?_; intro h' tk' F' N'
    refine wpAny_execs_cons ?_
    refine wpAny_Assign_Name ?_ (by with_unfolding_all rfl)
    refine wpAny_BinOp ?_
    refine qlo ?_
    refine callStr PySem.F.slot_str_join PySem.F.type_str_join ?_ (by with_unfolding_all rfl) (by with_unfolding_all rfl) (by with_unfolding_all rfl)
    refine qlo ?_
    refine ⟨_, _, rfl, ?_⟩
    refine args_cons ?_ (by with_unfolding_all rfl)
    refine qlo ?_
    refine args_nil ?_
    dsimp only
    refine joinS (N'.get 0 rfl).list (by rw [hfull]; exact ok6) ?_
    intro t8 tk8
    rw [hfull, hjn]
    refine add_txt (by walk_at "size") ?_; intro t' k'
    refine qst ?_; intro h' tk' F' N'
    refine wpAny_execs_cons ?_
    refine wpAny_Return_some ?_
    refine BoolOp_or ?_
    refine qlo ?_
    refine truthyS (by walk_at "size") ?_; intro k'
    dsimp only
    refine ite_t (by rw [Str.length_append]; omega) ?_
    exact h _ _ _ (keeps_of (F'.weak (k3.trans k4))).sub
end
end
/-! Stat -/
section
/-- a row of the table of filemode -/
structure FRow where
  a : Addr
  b : Int
  tb : Tok
  c : Str
  tc : Tok
def fmT : List (Addr × List FRow) := [(193, [⟨186, 40960, 430, ⟨#[108]⟩, 465⟩, ⟨187, 49152, 432, ⟨#[115]⟩, 466⟩, ⟨188, 32768, 426, ⟨#[45]⟩, 467⟩, ⟨189, 24576, 424, ⟨#[98]⟩, 468⟩, ⟨190, 16384, 420, ⟨#[100]⟩, 469⟩, ⟨191, 8192, 422, ⟨#[99]⟩, 470⟩, ⟨192, 4096, 428, ⟨#[112]⟩, 471⟩]), (195, [⟨194, 256, 447, ⟨#[114]⟩, 472⟩]), (197, [⟨196, 128, 449, ⟨#[119]⟩, 473⟩]), (201, [⟨198, 2112, 474, ⟨#[115]⟩, 475⟩, ⟨199, 2048, 441, ⟨#[83]⟩, 476⟩, ⟨200, 64, 451, ⟨#[120]⟩, 477⟩]), (203, [⟨202, 32, 453, ⟨#[114]⟩, 478⟩]), (205, [⟨204, 16, 455, ⟨#[119]⟩, 479⟩]), (209, [⟨206, 1032, 480, ⟨#[115]⟩, 481⟩, ⟨207, 1024, 443, ⟨#[83]⟩, 482⟩, ⟨208, 8, 457, ⟨#[120]⟩, 483⟩]), (211, [⟨210, 4, 459, ⟨#[114]⟩, 484⟩]), (213, [⟨212, 2, 461, ⟨#[119]⟩, 485⟩]), (217, [⟨214, 513, 486, ⟨#[116]⟩, 487⟩, ⟨215, 512, 445, ⟨#[84]⟩, 488⟩, ⟨216, 1, 463, ⟨#[120]⟩, 489⟩])]
abbrev frowObj (r : FRow) : Obj := { cls := .type "tuple", data := .seq #[.int r.b r.tb, .str r.c r.tc] }
theorem fm_top (w : World) : (KK w).lookup 218 = some { cls := .type "tuple", data := .seq (fmT.map fun p => Value.ref p.1).toArray } := by with_unfolding_all rfl
theorem fm_tabs (w : World) : ∀ p ∈ fmT, (KK w).lookup p.1 = some { cls := .type "tuple", data := .seq (p.2.map fun r => Value.ref r.a).toArray } := by
  intro p hp
  unfold fmT at hp
  simp only [List.mem_cons, List.not_mem_nil, or_false] at hp
  rcases hp with rfl | rfl | rfl | rfl | rfl | rfl | rfl | rfl | rfl | rfl <;> with_unfolding_all rfl
theorem fm_rows (w : World) : ∀ p ∈ fmT, ∀ r ∈ p.2, (KK w).lookup r.a = some (frowObj r) := by
  intro p hp r hr
  unfold fmT at hp
  simp only [List.mem_cons, List.not_mem_nil, or_false] at hp
  rcases hp with rfl | rfl | rfl | rfl | rfl | rfl | rfl | rfl | rfl | rfl <;> simp only [List.mem_cons, List.not_mem_nil, or_false] at hr
  · rcases hr with rfl | rfl | rfl | rfl | rfl | rfl | rfl <;> with_unfolding_all rfl
  · subst hr; with_unfolding_all rfl
  · subst hr; with_unfolding_all rfl
  · rcases hr with rfl | rfl | rfl <;> with_unfolding_all rfl
  · subst hr; with_unfolding_all rfl
  · subst hr; with_unfolding_all rfl
  · rcases hr with rfl | rfl | rfl <;> with_unfolding_all rfl
  · subst hr; with_unfolding_all rfl
  · subst hr; with_unfolding_all rfl
  · rcases hr with rfl | rfl | rfl <;> with_unfolding_all rfl
def fmHit (mode : Int) (i : Nat) (r : FRow) : Bool := if i = 0 then Builtin.bitAnd mode 61440 == r.b else Builtin.bitAnd mode r.b == r.b
def fmChar (mode : Int) (i : Nat) (rows : List FRow) : Str := match rows.find? (fmHit mode i) with
  | some r => r.c
  | none => if i = 0 then Str.ofString "?" else Str.ofString "-"
def fmChars (mode : Int) : Nat → List Str
  | 0 => []
  | n + 1 => fmChars mode n ++ [fmChar mode n ((fmT[n]?.map (·.2)).getD [])]
def fmF (mode : Int) : Str := Txt.join (Str.ofString "") (fmChars mode 10)
theorem fmChar_len (mode : Int) (i : Nat) (rows : List FRow) (h : ∀ r ∈ rows, r.c.length = 1) : (fmChar mode i rows).length = 1 := by
  unfold fmChar
  cases e : rows.find? (fmHit mode i) with
  | some r => exact h r (List.mem_of_find?_eq_some e)
  | none => dsimp only; split <;> decide
theorem fmT_len : ∀ p ∈ fmT, ∀ r ∈ p.2, r.c.length = 1 := by decide
section
variable {prog : Program} {w : World} {A : Around} {E : Value → Shared → Prop} {s : Shared} {hT : Heap} {mg mb : Str → Option Value} {Q : Value → Shared → Prop}
theorem imode_spec {m : Int} {t : Tok} (O : Ok w mg mb hT) (kT : Sub hT s.heap) (R : Room A 1)
    (h : ∀ h' tk' t', Sub s.heap h' → Q (.int (Builtin.bitAnd m 4095) t') { s with heap := h', toks := tk' }) :
    wpAny (model prog w) A (call (.ref 171) [.int m t]) Q E s := by
  refine enter [(Str.ofString "mode", .int m t)].reverse [] [] O kT (by simp) rfl rfl R.depth (by simp) (by simp) rfl (locs rfl) ?_
  intro L h₁ tk O' F N
  rw [List.reverse_reverse] at F
  refine wpAny_execs_cons ?_
  refine wpAny_Return_some ?_
  refine wpAny_BinOp ?_
  refine qlo ?_
  refine cst_int ?_; intro t' k'
  refine andI ?_; intro t' k'
  dsimp only
  exact h _ _ _ (keeps_of F).sub
theorem ifmt_spec {m : Int} {t : Tok} (O : Ok w mg mb hT) (kT : Sub hT s.heap) (R : Room A 1)
    (h : ∀ h' tk' t', Sub s.heap h' → Q (.int (Builtin.bitAnd m 61440) t') { s with heap := h', toks := tk' }) :
    wpAny (model prog w) A (call (.ref 178) [.int m t]) Q E s := by
  refine enter [(Str.ofString "mode", .int m t)].reverse [] [] O kT (by simp) rfl rfl R.depth (by simp) (by simp) rfl (locs rfl) ?_
  intro L h₁ tk O' F N
  rw [List.reverse_reverse] at F
  refine wpAny_execs_cons ?_
  refine wpAny_Return_some ?_
  refine wpAny_BinOp ?_
  refine qlo ?_
  refine cst_int ?_; intro t' k'
  refine andI ?_; intro t' k'
  dsimp only
  exact h _ _ _ (keeps_of F).sub
theorem ifmt_call {g : Heap} {L : Addr} {mm : Str → Option Value} {led : Lg} {m : Int} {t : Tok} (O : Ok w mg mb g) (F : Fm g L s.heap mm) (N : Led g L s.heap led) (R : Room A 1)
    (h : ∀ h' tk' t', Fm g L h' mm → Led g L h' led → Q (.int (Builtin.bitAnd m 61440) t') { s with heap := h', toks := tk' }) :
    wpAny (model prog w) A (call (.ref 178) [.int m t]) Q E s := ifmt_spec O F.keep R fun h' tk' t' k => h h' tk' t' (F.sub k) (N.sub k)
theorem imode_call {g : Heap} {L : Addr} {mm : Str → Option Value} {led : Lg} {m : Int} {t : Tok} (O : Ok w mg mb g) (F : Fm g L s.heap mm) (N : Led g L s.heap led) (R : Room A 1)
    (h : ∀ h' tk' t', Fm g L h' mm → Led g L h' led → Q (.int (Builtin.bitAnd m 4095) t') { s with heap := h', toks := tk' }) :
    wpAny (model prog w) A (call (.ref 171) [.int m t]) Q E s := imode_spec O F.keep R fun h' tk' t' k => h h' tk' t' (F.sub k) (N.sub k)
theorem islnk_spec {m : Int} {t : Tok} (O : Ok w mg mb hT) (kT : Sub hT s.heap) (R : Room A 2)
    (h : ∀ h' tk', Sub s.heap h' → Q (.bool (Builtin.bitAnd m 61440 == 40960)) { s with heap := h', toks := tk' }) :
    wpAny (model prog w) A (call (.ref 185) [.int m t]) Q E s := by
  refine enter [(Str.ofString "mode", .int m t)].reverse [] [] O kT (by simp) rfl rfl R.depth (by simp) (by simp) rfl (locs rfl) ?_
  intro L h₁ tk O' F N
  rw [List.reverse_reverse] at F
  refine wpAny_execs_cons ?_
  refine wpAny_Return_some ?_
  refine wpAny_Compare1 ?_ (by with_unfolding_all rfl)
  refine Call_ ?_ (by with_unfolding_all rfl)
  refine qgl (gn_S_IFMT _) ?_
  refine qfn (kp_S_IFMT _) ?_
  refine args_cons ?_ (by with_unfolding_all rfl)
  refine qlo ?_
  refine args_nil ?_
  refine ⟨Fm.keep (by assumption), ?_⟩
  refine ifmt_call (by assumption) (by assumption) (by assumption) (by walk_at "room") ?_; intro h' tk' t' F' N'
  refine qgl (gn_S_IFLNK _) ?_
  refine P.eq_int ?_
  dsimp only
  exact h _ _ (keeps_of F').sub
theorem islnk_call {g : Heap} {L : Addr} {mm : Str → Option Value} {led : Lg} {m : Int} {t : Tok} (O : Ok w mg mb g) (F : Fm g L s.heap mm) (N : Led g L s.heap led) (R : Room A 2)
    (h : ∀ h' tk', Fm g L h' mm → Led g L h' led → Q (.bool (Builtin.bitAnd m 61440 == 40960)) { s with heap := h', toks := tk' }) :
    wpAny (model prog w) A (call (.ref 185) [.int m t]) Q E s := islnk_spec O F.keep R fun h' tk' k => h h' tk' (F.sub k) (N.sub k)
end
theorem Led.weak {g g' h : Heap} {L : Addr} {led : Lg} (k : Sub g g') (N : Led g' L h led) : Led g L h led := ⟨fun p hp => ⟨(N.has p hp).1, (by
  cases q : g.get? p.1 with
  | none => rfl
  | some o => have := k _ _ q; rw [(N.has p hp).2.1] at this; cases this), (N.has p hp).2.2⟩, N.nd⟩
end
/-! Fmode -/
section
open PySem.Builtin PySem.Builtin.Str
def FmSt (P : Addr) (mode : Int) (tm : Tok) (n : Nat) (ps : List (Str × Value)) (led : Lg) : Prop :=
  ∃ l : List (Str × Tok), ps = [(Str.ofString "mode", .int mode tm), (Str.ofString "perm", .ref P)] ∧ led = [(P, isLst (strValues l))] ∧ l.map (·.1) = fmChars mode n
theorem FmSt.fin {g1 gI g2 : Heap} {L P : Addr} {mode : Int} {tm : Tok} {n : Nat} {h' : Heap} {tk' : Nat} {s₀ : Shared} {ps : List (Str × Value)} {u : Str → Option Value} {l : List (Str × Tok)} {vs : List Value} {c : Str} {tc : Tok} {p : Addr × List FRow} (hp : fmT[n]? = some p) (hl : l.map (·.1) = fmChars mode n)
    (k : Sub gI g2) (F : Fm g2 L h' (ov ps u)) (N : Led g2 L h' [(P, isLst (strValues (l ++ [(c, tc)])))])
    (e1 : [Str.ofString "mode", Str.ofString "perm"].map (fun x => ps.lookup x) = [some (.int mode tm), some (.ref P)]) (e2 : c = fmChar mode n p.2) :
    TurnEnd g1 gI L (List.map (fun x => x.fst) [(P, isLst vs)]) (fun _ ps led => FmSt P mode tm (n + 1) ps led) s₀ { s₀ with heap := h', toks := tk' } := by
  obtain ⟨u5, F5⟩ := (F.weak k).sel [(Str.ofString "mode", .int mode tm), (Str.ofString "perm", .ref P)] (by simpa using e1)
  exact ⟨_, _, _, u5, [], _, rfl, F5, N.weak k, rfl, fun _ _ _ => ⟨_, rfl, rfl, by rw [List.map_append, hl, e2, fmChars, hp]; rfl⟩⟩
def FmIn (P : Addr) (mode : Int) (tm ti : Tok) (l : List (Str × Tok)) (n : Nat) (rows : List FRow) (j : Nat) (ps : List (Str × Value)) (led : Lg) : Prop :=
  ps = [(Str.ofString "index", .int n ti), (Str.ofString "mode", .int mode tm), (Str.ofString "perm", .ref P)] ∧ led = [(P, isLst (strValues l))] ∧ ∀ r ∈ rows.take j, fmHit mode n r = false
theorem FmIn.next {g1 gI : Heap} {L P : Addr} {mode : Int} {tm ti : Tok} {n j : Nat} {h' : Heap} {tk' : Nat} {s₀ : Shared} {ps : List (Str × Value)} {u : Str → Option Value} {l : List (Str × Tok)} {rows : List FRow} {r : FRow} (hr : rows[j]? = some r) (hn : ∀ r ∈ rows.take j, fmHit mode n r = false)
    (F : Fm gI L h' (ov ps u)) (N : Led gI L h' [(P, isLst (strValues l))])
    (e1 : [Str.ofString "index", Str.ofString "mode", Str.ofString "perm"].map (fun x => ps.lookup x) = [some (.int n ti), some (.int mode tm), some (.ref P)]) (e2 : fmHit mode n r = false) :
    TurnEnd g1 gI L (List.map (fun x => x.fst) [(P, isLst (strValues l))]) (fun _ ps led => FmIn P mode tm ti l n rows (j + 1) ps led) s₀ { s₀ with heap := h', toks := tk' } := by
  obtain ⟨u5, F5⟩ := F.sel [(Str.ofString "index", .int n ti), (Str.ofString "mode", .int mode tm), (Str.ofString "perm", .ref P)] (by simpa using e1)
  refine ⟨_, _, _, u5, [], _, rfl, F5, N, rfl, fun _ _ _ => ⟨rfl, rfl, ?_⟩⟩
  rw [List.take_add_one, hr]
  intro x hx
  rcases List.mem_append.mp hx with q | q
  · exact hn x q
  · simp only [Option.toList_some, List.mem_singleton] at q; rw [q]; exact e2
theorem fmOk (m : Int) : JoinOk (Str.ofString "") (fmChars m 10) = true := by
  have hc : ∀ n p, fmT[n]? = some p → (fmChar m n ((fmT[n]?.map (·.2)).getD [])).length = 1 := fun n p hp => by
    rw [hp]; exact fmChar_len _ _ _ (fmT_len p (List.mem_of_getElem? hp))
  have h0 := hc 0 _ rfl
  have h1 := hc 1 _ rfl
  have h2 := hc 2 _ rfl
  have h3 := hc 3 _ rfl
  have h4 := hc 4 _ rfl
  have h5 := hc 5 _ rfl
  have h6 := hc 6 _ rfl
  have h7 := hc 7 _ rfl
  have h8 := hc 8 _ rfl
  have h9 := hc 9 _ rfl
  unfold JoinOk
  simp only [fmChars, List.map_nil, List.nil_append, List.cons_append, List.foldl_toArray', List.foldl_cons, List.foldl_nil, h0, h1, h2, h3, h4, h5, h6, h7, h8, h9, lit_nil]
  decide
section
variable {prog : Program} {w : World} {A : Around} {E : Value → Shared → Prop} {s : Shared} {hT : Heap} {mg mb : Str → Option Value} {Q : Value → Shared → Prop}
theorem filemode_spec {m : Int} {t : Tok} (O : Ok w mg mb hT) (kT : Sub hT s.heap) (R : Room A 3)
    (h : ∀ h' tk' t', Sub s.heap h' → Q (.str (fmF m) t') { s with heap := h', toks := tk' }) :
    wpAny (model prog w) A (call (.ref 225) [.int m t]) Q E s := by
  have hsl : sizeLine = 16777216 := rfl
  refine enter [(Str.ofString "mode", .int m t)].reverse [] [] O kT (by simp) rfl rfl R.depth (by simp) (by simp) rfl (locs rfl) ?_
  intro L h₁ tk O' F N
  rw [List.reverse_reverse] at F
  refine wpAny_execs_cons ?_
  refine wpAny_Assign_Name ?_ (by with_unfolding_all rfl)
  refine List_ ?_
  refine args_nil ?_
  refine newLst (by assumption) (by assumption) (by with_unfolding_all exact Nat.le_of_ble_eq_true rfl) ?_; intro a' h' F' N'
  refine qst ?_; intro h' tk' F' N'
  refine wpAny_execs_cons ?_
  refine wpAny_For ?_ (by intro _; with_unfolding_all rfl)
  refine Call_ ?_ (by with_unfolding_all rfl)
  refine qbl (gn_enumerate _) boot_enumerate ?_
  refine Pv.callWith_type1 ?_ (by with_unfolding_all rfl) (by with_unfolding_all rfl)
  refine args_cons ?_ (by with_unfolding_all rfl)
  refine qgl (gn_filemode_table _) ?_
  refine args_nil ?_
  dsimp only
  obtain ⟨u', F''⟩ := F'.sel [(Str.ofString "mode", .int m t), (Str.ofString "perm", .ref a')] (by with_unfolding_all rfl)
  refine for_enum R.hh (ax := 218) (vs := fmT.map fun p : Addr × List FRow => Value.ref p.1) ⟨_, O'.X _ _ (fm_top w), rfl⟩ (fun i _ ps led => FmSt a' m t i ps led) F'' N' ⟨[], rfl, rfl, rfl⟩ ?_ ?_
  · rintro i v T tt h2 tk2 g1 gI ps u2 led hi hv hTt kg kI ⟨l, rfl, rfl, hl⟩ hd F2 N2
    obtain ⟨p, hp⟩ : ∃ p, fmT[i]? = some p := by rw [List.length_map] at hi; exact ⟨_, List.getElem?_eq_getElem hi⟩
    have hv' : v = .ref p.1 := by rw [List.getElem?_map, hp] at hv; cases hv; rfl
    subst hv'
    have hpm := List.mem_of_getElem? hp
    have hi10 : i < 10 := by rw [List.length_map] at hi; exact hi
    have O2 := O'.keeps (kg.trans kI)
    have hlz : l.length = i := by
      have : ∀ n, (fmChars m n).length = n := by intro n; induction n with | zero => rfl | succ n ih => rw [fmChars, List.length_append, ih]; rfl
      rw [← List.length_map (f := (·.1)), hl, this]
    have hvz : (strValues l).length = l.length := by unfold strValues; simp
    have happ : ∀ c tk, isLst (strValues l ++ [Value.str c tk]) = isLst (strValues (l ++ [(c, tk)])) := by intro c tk; unfold strValues; simp
    refine asg2 (by assumption) (by assumption) R.hh hTt ?_ (by with_unfolding_all rfl) (by with_unfolding_all rfl)
    intro h' F' N'
    refine wpAny_assign_Name ?_
    refine qst ?_; intro h' tk' F' N'
    refine wpAny_assign_Name ?_
    refine qst ?_; intro h' tk' F' N'
    refine wpAny_execs_cons ?_
    refine wpAny_For ?_ (by intro _; with_unfolding_all rfl)
    refine qlo ?_
    dsimp only
    obtain ⟨u', F''⟩ := F'.sel [(Str.ofString "index", .int i tt), (Str.ofString "mode", .int m t), (Str.ofString "perm", .ref a')] (by with_unfolding_all rfl)
    refine for_tup R.hh (ax := p.1) (vs := p.2.map fun r : FRow => Value.ref r.a) ⟨_, O2.X _ _ (fm_tabs w p hpm), rfl⟩ (fun j _ ps led => FmIn a' m t tt l i p.2 j ps led) F'' N' ⟨rfl, rfl, by simp⟩ ?_ ?_
    · rintro j v h3 tk3 g3 gJ ps u3 led hj hv k3 kJ ⟨rfl, rfl, hno⟩ hd3 F3 N3
      obtain ⟨r, hr⟩ : ∃ r, p.2[j]? = some r := by rw [List.length_map] at hj; exact ⟨_, List.getElem?_eq_getElem hj⟩
      have hv' : v = .ref r.a := by rw [List.getElem?_map, hr] at hv; cases hv; rfl
      subst hv'
      have hrm := List.mem_of_getElem? hr
      have O3 := O2.keeps (k3.trans kJ)
      have hro := F3.keep _ _ (O3.X _ _ (fm_rows w p hpm r hrm))
      have hfind : fmHit m i r = true → r.c = fmChar m i p.2 := by
        intro q
        have : p.2.find? (fmHit m i) = some r := by
          rw [List.find?_eq_some_iff_getElem]
          refine ⟨q, j, (List.getElem?_eq_some_iff.mp hr).1, (List.getElem?_eq_some_iff.mp hr).2, fun k hk => ?_⟩
          rw [Bool.not_eq_true']
          exact hno _ (List.mem_take_iff_getElem.mpr ⟨k, by have := (List.getElem?_eq_some_iff.mp hr).1; omega, rfl⟩)
        unfold fmChar; rw [this]
      refine asg2 (by assumption) (by assumption) R.hh ⟨_, hro, rfl, 0, rfl⟩ ?_ (by with_unfolding_all rfl) (by with_unfolding_all rfl)
      intro h' F' N'
      refine wpAny_assign_Name ?_
      refine qst ?_; intro h' tk' F' N'
      refine wpAny_assign_Name ?_
      refine qst ?_; intro h' tk' F' N'
      refine wpAny_execs_cons ?_
      refine wpAny_If ?_
      refine wpAny_isTrue_Compare1 ?_ (by with_unfolding_all rfl)
      refine qlo ?_
      refine cst_int ?_; intro t' k'
      refine P.eq_int ?_
      refine wpAny_truthy_bool ?_
      dsimp only
      by_cases ci : i = 0
      · refine itb_t (by simpa using ci) ?_
        refine wpAny_execs_cons ?_
        refine wpAny_If ?_
        refine wpAny_isTrue_Compare1 ?_ (by with_unfolding_all rfl)
        refine Call_ ?_ (by with_unfolding_all rfl)
        refine qgl (gn_S_IFMT _) ?_
        refine qfn (kp_S_IFMT _) ?_
        refine args_cons ?_ (by with_unfolding_all rfl)
        refine qlo ?_
        refine args_nil ?_
        refine ⟨Fm.keep (by assumption), ?_⟩
        refine ifmt_call (by assumption) (by assumption) (by assumption) (by walk_at "room") ?_; intro h' tk' t' F' N'
        refine qlo ?_
        refine P.eq_int ?_
        refine wpAny_truthy_bool ?_
        dsimp only
        by_cases ch : (bitAnd m 61440 == r.b) = true
        · refine itb_t ch ?_
          refine wpAny_execs_cons ?_
          refine wpAny_Expr ?_ (by with_unfolding_all rfl) (by with_unfolding_all rfl)
          refine callLst PySem.F.slot_list_append PySem.F.type_list_append ?_ (by with_unfolding_all rfl) (by with_unfolding_all rfl) (by with_unfolding_all rfl)
          refine qlo ?_
          refine ⟨_, _, rfl, Led.get (by assumption) 0 (by with_unfolding_all rfl), ?_⟩
          refine args_cons ?_ (by with_unfolding_all rfl)
          refine qlo ?_
          refine args_nil ?_
          dsimp only
          try refine ⟨_, _, rfl, N'.get 0 rfl, ?_⟩
          skip
          refine append_lst (N'.get 0 rfl) (by omega) ?_
          intro h5 H5 k5
          have F5 := F'.upd (N'.ne 0 rfl) (N'.off 0 rfl) k5
          have N5 := N'.upd 0 rfl k5 H5
          rw [List.set_cons_zero, happ] at N5
          refine wpAny_execs_cons ?_
          refine wpAny_Break ?_
          refine wpAny_execs_nil ?_
          dsimp only
          exact FmSt.fin hp hl (k3.trans kJ) F5 N5 (by with_unfolding_all rfl) (hfind (by unfold fmHit; rw [if_pos ci]; exact ch))
        · refine itb_f (by simpa using ch) ?_
          refine wpAny_execs_nil ?_
          refine wpAny_execs_nil ?_
          refine wpAny_execs_nil ?_
          dsimp only
          exact FmIn.next hr hno F' N' (by with_unfolding_all rfl) (by unfold fmHit; rw [if_pos ci]; simpa using ch)
      · refine itb_f (by simpa using ci) ?_
        refine wpAny_execs_cons ?_
        refine wpAny_If ?_
        refine wpAny_isTrue_Compare1 ?_ (by with_unfolding_all rfl)
        refine wpAny_BinOp ?_
        refine qlo ?_
        refine qlo ?_
        refine andI ?_; intro t' k'
        refine qlo ?_
        refine P.eq_int ?_
        refine wpAny_truthy_bool ?_
        dsimp only
        by_cases ch : (bitAnd m r.b == r.b) = true
        · refine itb_t ch ?_
          refine wpAny_execs_cons ?_
          refine wpAny_Expr ?_ (by with_unfolding_all rfl) (by with_unfolding_all rfl)
          refine callLst PySem.F.slot_list_append PySem.F.type_list_append ?_ (by with_unfolding_all rfl) (by with_unfolding_all rfl) (by with_unfolding_all rfl)
          refine qlo ?_
          refine ⟨_, _, rfl, Led.get (by assumption) 0 (by with_unfolding_all rfl), ?_⟩
          refine args_cons ?_ (by with_unfolding_all rfl)
          refine qlo ?_
          refine args_nil ?_
          dsimp only
          try refine ⟨_, _, rfl, N'.get 0 rfl, ?_⟩
          skip
          refine append_lst (N'.get 0 rfl) (by omega) ?_
          intro h5 H5 k5
          have F5 := F'.upd (N'.ne 0 rfl) (N'.off 0 rfl) k5
          have N5 := N'.upd 0 rfl k5 H5
          rw [List.set_cons_zero, happ] at N5
          refine wpAny_execs_cons ?_
          refine wpAny_Break ?_
          refine wpAny_execs_nil ?_
          dsimp only
          exact FmSt.fin hp hl (k3.trans kJ) F5 N5 (by with_unfolding_all rfl) (hfind (by unfold fmHit; rw [if_neg ci]; exact ch))
        · refine itb_f (by simpa using ch) ?_
          refine wpAny_execs_nil ?_
          refine wpAny_execs_nil ?_
          refine wpAny_execs_nil ?_
          dsimp only
          exact FmIn.next hr hno F' N' (by with_unfolding_all rfl) (by unfold fmHit; rw [if_neg ci]; simpa using ch)
    · rintro h3 tk3 g3 ps u3 led k3 ⟨rfl, rfl, hno⟩ hd3 F3 N3
      have hnone : p.2.find? (fmHit m i) = none := by
        rw [List.find?_eq_none]
        intro r hr q
        rw [List.length_map, List.take_length] at hno
        rw [hno r hr] at q; cases q
      refine wpAny_execs_cons ?_
      refine wpAny_If ?_
      refine wpAny_isTrue_Compare1 ?_ (by with_unfolding_all rfl)
      refine qlo ?_
      refine cst_int ?_; intro t' k'
      refine P.eq_int ?_
      refine wpAny_truthy_bool ?_
      dsimp only
      by_cases ci : i = 0
      · refine itb_t (by simpa using ci) ?_
        refine wpAny_execs_cons ?_
        refine wpAny_Expr ?_ (by with_unfolding_all rfl) (by with_unfolding_all rfl)
        refine callLst PySem.F.slot_list_append PySem.F.type_list_append ?_ (by with_unfolding_all rfl) (by with_unfolding_all rfl) (by with_unfolding_all rfl)
        refine qlo ?_
        refine ⟨_, _, rfl, Led.get (by assumption) 0 (by with_unfolding_all rfl), ?_⟩
        refine args_cons ?_ (by with_unfolding_all rfl)
        refine cst_str ?_; intro t' k'
        refine args_nil ?_
        dsimp only
        try refine ⟨_, _, rfl, N3.get 0 rfl, ?_⟩
        skip
        refine append_lst (N3.get 0 rfl) (by omega) ?_
        intro h5 H5 k5
        have F5 := F3.upd (N3.ne 0 rfl) (N3.off 0 rfl) k5
        have N5 := N3.upd 0 rfl k5 H5
        rw [List.set_cons_zero, happ] at N5
        refine wpAny_execs_nil ?_
        refine wpAny_execs_nil ?_
        refine wpAny_execs_nil ?_
        dsimp only
        exact FmSt.fin hp hl k3 F5 N5 (by with_unfolding_all rfl) (by unfold fmChar; rw [hnone]; dsimp only; rw [if_pos ci])
      · refine itb_f (by simpa using ci) ?_
        refine wpAny_execs_cons ?_
        refine wpAny_Expr ?_ (by with_unfolding_all rfl) (by with_unfolding_all rfl)
        refine callLst PySem.F.slot_list_append PySem.F.type_list_append ?_ (by with_unfolding_all rfl) (by with_unfolding_all rfl) (by with_unfolding_all rfl)
        refine qlo ?_
        refine ⟨_, _, rfl, Led.get (by assumption) 0 (by with_unfolding_all rfl), ?_⟩
        refine args_cons ?_ (by with_unfolding_all rfl)
        refine cst_str ?_; intro t' k'
        refine args_nil ?_
        dsimp only
        try refine ⟨_, _, rfl, N3.get 0 rfl, ?_⟩
        skip
        refine append_lst (N3.get 0 rfl) (by omega) ?_
        intro h5 H5 k5
        have F5 := F3.upd (N3.ne 0 rfl) (N3.off 0 rfl) k5
        have N5 := N3.upd 0 rfl k5 H5
        rw [List.set_cons_zero, happ] at N5
        refine wpAny_execs_nil ?_
        refine wpAny_execs_nil ?_
        refine wpAny_execs_nil ?_
        dsimp only
        exact FmSt.fin hp hl k3 F5 N5 (by with_unfolding_all rfl) (by unfold fmChar; rw [hnone]; dsimp only; rw [if_neg ci])
  · rintro h2 tk2 g1 ps u2 led kg ⟨l, rfl, rfl, hl⟩ hd F2 N2
    refine wpAny_execs_nil ?_
    refine wpAny_execs_cons ?_
    refine wpAny_Return_some ?_
    refine callStr PySem.F.slot_str_join PySem.F.type_str_join ?_ (by with_unfolding_all rfl) (by with_unfolding_all rfl) (by with_unfolding_all rfl)
    refine cst_str ?_; intro t' k'
    refine ⟨_, _, rfl, ?_⟩
    refine args_cons ?_ (by with_unfolding_all rfl)
    refine qlo ?_
    refine args_nil ?_
    dsimp only
    refine joinS (N2.get 0 rfl).list (by rw [hl]; exact fmOk m) ?_
    intro t8 tk8
    rw [hl]
    exact h _ _ _ (keeps_of (F2.weak kg)).sub
end
end
/-! LawA -/
section
theorem Led.fresh {h h' : Heap} {L : Addr} {led : Lg} {g' : Heap} (k : Sub (hideAll h []) g') (N : Led g' L h' led) (i : Nat) {a : Addr} {P : Obj → Prop} (hi : led[i]? = some (a, P)) : h.get? a = none := by
  cases q : h.get? a with
  | none => rfl
  | some o =>
    have := k _ _ (hideAll_get [] q (by simp))
    rw [N.off i hi] at this; cases this
theorem Led.grow {g h h' : Heap} {L : Addr} {m : Str → Option Value} {led : Lg} (F : Fm g L h m) (N : Led g L h led) (k : Sub h h') {a : Addr} {P : Obj → Prop} (ha : h.get? a = none) (hP : Has h' a P) : Led g L h' ((a, P) :: led) := by
  have N' := N.sub k
  refine ⟨fun p hp => ?_, ?_⟩
  · rcases List.mem_cons.mp hp with rfl | hp
    · refine ⟨?_, ?_, hP⟩
      · rintro q
        obtain ⟨_, _, _, e, _⟩ := F.ns
        rw [← q, ha] at e; cases e
      · cases q : g.get? a with
        | none => rfl
        | some o => rw [F.keep _ _ q] at ha; cases ha
    · exact N'.has p hp
  · rw [List.map_cons, List.nodup_cons]
    refine ⟨fun q => ?_, N'.nd⟩
    obtain ⟨p, hp, e⟩ := List.mem_map.mp q
    obtain ⟨o, ho, _⟩ := (N.has p hp).2.2
    rw [e, ha] at ho; cases ho
theorem cat_ints {h : Heap} {a : Addr} {l' : List (Int × Tok)} {k : Nat} {t1 t2 t3 t4 t5 t6 t7 t8 : Tok} (q : Has h a (isLst (intValues l' ++ List.drop k [.int 38 t1, .int 59 t2, .int 20 t3, .int 36864 t4, .int 43284 t5, .int 37081 t6, .int 37560 t7, .int 43010 t8]))) :
    ∃ l2 : List (Int × Tok), Has h a (isLst (intValues (l' ++ l2))) ∧ l2.map (·.1) = List.drop k [38, 59, 20, 36864, 43284, 37081, 37560, 43010] := by
  refine ⟨List.drop k [(38, t1), (59, t2), (20, t3), (36864, t4), (43284, t5), (37081, t6), (37560, t7), (43010, t8)], ?_, by rw [List.map_drop]; rfl⟩
  have e : intValues (l' ++ List.drop k [(38, t1), (59, t2), (20, t3), (36864, t4), (43284, t5), (37081, t6), (37560, t7), (43010, t8)]) = intValues l' ++ List.drop k [.int 38 t1, .int 59 t2, .int 20 t3, .int 36864 t4, .int 43284 t5, .int 37081 t6, .int 37560 t7, .int 43010 t8] := by
    unfold intValues; rw [List.map_append, List.map_drop]; rfl
  rw [e]; exact q
def lawNums (ns : List Int) : List Int := (ns.take 8).map (fun n => n.fmod 1000000) ++ [38, 59, 20, 36864, 43284, 37081, 37560, 43010].drop (min 8 ns.length)
section
variable {prog : Program} {w : World} {A : Around} {E : Value → Shared → Prop} {s : Shared} {hT : Heap} {mg mb : Str → Option Value} {Q : Value → Shared → Prop}
theorem numbers_spec {sc : Addr} {l : List (Int × Tok)} (O : Ok w mg mb hT) (kT : Sub hT s.heap) (R : Room A 1) (hl : s.heap.IsList sc (intValues l).toArray) (hz : l.length ≤ 63)
    (h : ∀ h' tk' a l', Sub s.heap h' → s.heap.get? a = none → Has h' a (isLst (intValues l')) → l'.map (·.1) = lawNums (l.map (·.1)) → Q (.ref a) { s with heap := h', toks := tk' }) :
    wpAny (model prog w) A (call (.ref 230) [.ref sc]) Q E s := by
  have hsl : sizeLine = 16777216 := rfl
  refine enter [(Str.ofString "script", .ref sc)].reverse [] [] O kT (by simp) rfl rfl R.depth (by simp) (by simp) rfl (locs rfl) ?_
  intro L h₁ tk O' F N
  rw [List.reverse_reverse] at F
  have LS := lslice
  refine wpAny_execs_cons ?_
  refine lcomp_asg (cl := []) (by with_unfolding_all rfl) (by with_unfolding_all rfl) (by with_unfolding_all decide) (by with_unfolding_all rfl) (by with_unfolding_all decide) (by with_unfolding_all rfl) ?_ (by intro _; with_unfolding_all rfl)
  refine sub_slice_lst ?_ (by intro _ _; with_unfolding_all rfl)
  refine qlo ?_
  refine part_none ?_
  refine part_some ?_
  refine cst_int ?_; intro t' k'
  dsimp only
  have hl1 : h₁.IsList sc (intValues l).toArray := has_isList hl fun o e => keeps_of F sc o (by simp) e
  refine ll_upto (b := 8) (by assumption) (by assumption) hl1 (by rw [intValues_len]; omega) ?_
  intro a2 h2 F2 N2
  obtain ⟨g2, F2, N2, k2, q2⟩ := freeze [(a2, _)] (led := []) F2 N2
  have hx2 := (q2 _ (.head _)).list
  have O2 := O'.keeps k2
  refine src_list R.hh hx2 F2 N2 ?_
  intro it h3 tk3 hS
  refine ⟨g2, _, [], _, _, (fun i _ ys => ∃ l' : List (Int × Tok), ys = intValues l' ∧ l'.map (·.1) = (((l.map (·.1)).take 8).take i).map (fun n => n.fmod 1000000)), hS, ?_, ⟨[], rfl, by simp⟩, ?_, ?_⟩
  · rw [List.length_take, intValues_len]; omega
  · intro i v h4 tk4 g4 gI C u ys hi hv k4 kI hp hlen F4 N4
    obtain ⟨l', rfl, hl'⟩ := hp
    have O4 := O2.keeps (k4.trans kI)
    obtain ⟨n, hn⟩ : ∃ n, ((l.map (·.1)).take 8)[i]? = some n := by
      rw [List.length_take, intValues_len] at hi
      exact ⟨_, List.getElem?_eq_getElem (by simp; omega)⟩
    have hi8 : i < 8 := by rw [List.length_take] at hi; omega
    rw [List.getElem?_take_of_lt hi8] at hn hv
    obtain ⟨tn, hvn⟩ := intValues_get rfl hn
    rw [hvn] at hv
    cases hv
    rw [List.forIn_nil]
    refine wpAny_pure ?_
    rw [if_pos rfl]
    refine wpAny_BinOp ?_
    refine Call_ ?_ (by with_unfolding_all rfl)
    refine qbl (gn_int _) boot_int ?_
    refine Pv.callWith_type1 ?_ (by with_unfolding_all rfl) (by with_unfolding_all rfl)
    refine args_cons ?_ (by with_unfolding_all rfl)
    refine qlo ?_
    refine args_nil ?_
    refine intC ?_
    refine wpAny_BinOp ?_
    refine cst_int ?_; intro t' k'
    refine cst_int ?_; intro t' k'
    dsimp only
    refine pow10 ?_
    intro t5 tk5
    dsimp only
    refine modI (by decide) ?_
    intro t6 tk6
    refine ⟨_, _, _, [], rfl, F4, N4, fun g5 _ _ => ⟨l' ++ [(n.fmod 1000000, t6)], by unfold intValues; simp, ?_⟩⟩
    rw [← List.getElem?_take_of_lt hi8] at hn
    generalize (l.map (·.1)).take 8 = T at hl' hn ⊢
    rw [List.map_append, hl', List.take_add_one, hn]
    simp
  · rintro C D h4 tk4 g4 ys mC k4 ⟨l', rfl, hl'⟩ F4 N4 hC hCL hCD hCl hnC
    have hlen : l'.length = min 8 l.length := by
      have := congrArg List.length hl'
      simpa [List.length_take, intValues_len] using this
    refine comp_sto F4 N4 hC hCL (by simpa using hCD) hnC ?_ (by with_unfolding_all rfl) (by with_unfolding_all rfl)
    intro h5 tk5 F5 N5
    clear F4 N4
    have O4 := O2.keeps k4
    refine wpAny_execs_cons ?_
    refine wpAny_Return_some ?_
    refine wpAny_BinOp ?_
    refine qlo ?_
    refine Subscript_ ?_
    refine List_ ?_
    refine args_cons ?_ (by with_unfolding_all rfl)
    refine cst_int ?_; intro t' k'
    refine args_cons ?_ (by with_unfolding_all rfl)
    refine cst_int ?_; intro t' k'
    refine args_cons ?_ (by with_unfolding_all rfl)
    refine cst_int ?_; intro t' k'
    refine args_cons ?_ (by with_unfolding_all rfl)
    refine cst_int ?_; intro t' k'
    refine args_cons ?_ (by with_unfolding_all rfl)
    refine cst_int ?_; intro t' k'
    refine args_cons ?_ (by with_unfolding_all rfl)
    refine cst_int ?_; intro t' k'
    refine args_cons ?_ (by with_unfolding_all rfl)
    refine cst_int ?_; intro t' k'
    refine args_cons ?_ (by with_unfolding_all rfl)
    refine cst_int ?_; intro t' k'
    refine args_nil ?_
    refine newLst (by assumption) (by assumption) (by with_unfolding_all exact Nat.le_of_ble_eq_true rfl) ?_; intro a' h' F' N'
    dsimp only
    refine slice_tail ?_ (by intro _ _; with_unfolding_all rfl)
    refine part_some ?_
    refine Call_ ?_ (by with_unfolding_all rfl)
    refine qbl (gn_len _) boot_len ?_
    refine callWith_builtin1 ?_ (by with_unfolding_all rfl) (by with_unfolding_all rfl)
    refine args_cons ?_ (by with_unfolding_all rfl)
    refine qlo ?_
    refine args_nil ?_
    refine lenL (vs := intValues l') (N'.get 1 rfl).list (by rw [intValues_len]; omega) ?_
    intro t6 tk6
    rw [intValues_len]
    refine part_none ?_
    dsimp only
    refine ll_from F' N' (N'.get 0 rfl).list (by simp; omega) (by simp; omega) ?_
    intro a7 h7 F7 N7
    dsimp only
    refine addL F7 N7 (N7.get 2 rfl).list (N7.get 0 rfl).list (by rw [intValues_len]; simp; omega) ?_
    intro a8 h8 F8 N8
    obtain ⟨l2, q2, e3⟩ := cat_ints (N8.get 0 rfl)
    refine h _ _ a8 (l' ++ l2) (keeps_of (F8.weak (k2.trans k4))).sub (N8.fresh (k2.trans k4) 0 rfl) q2 ?_
    rw [List.map_append, hl', e3, hlen]
    unfold lawNums
    rw [List.length_map]
    congr 2
    rw [List.take_of_length_le]
    simp only [List.length_take, intValues_len, List.length_map]; omega
end
end
/-! LawB -/
section
theorem strValues_snoc {l : List (Str × Tok)} {x : Str} {t : Tok} : strValues l ++ [Value.str x t] = strValues (l ++ [(x, t)]) := by unfold strValues; simp
theorem intValues_snoc {l : List (Int × Tok)} {x : Int} {t : Tok} : intValues l ++ [Value.int x t] = intValues (l ++ [(x, t)]) := by unfold intValues; simp
def nmT (k : Nat) : Str := ([Str.ofString "a", Str.ofString "b", Str.ofString "a-", Str.ofString "c"][k]?).getD (Str.ofString "c")
theorem nmT_len (k : Nat) : (nmT k).length ≤ 2 := by
  unfold nmT
  match k with
  | 0 => decide
  | 1 => decide
  | 2 => decide
  | 3 => decide
  | k + 4 => rw [List.getElem?_eq_none (by simp)]; decide
def textsN (f : Nat → Nat) : Nat → List Str
  | 0 => [Str.ofString ""]
  | k + 1 => textsN f k ++ [((textsN f k)[f k]?.getD (Str.ofString "") ++ Str.ofString "/") ++ nmT k]
theorem textsN_length (f : Nat → Nat) : ∀ k, (textsN f k).length = k + 1
  | 0 => rfl
  | k + 1 => by rw [textsN, List.length_append, textsN_length f k]; rfl
theorem textsN_small (f : Nat → Nat) : ∀ k, ∀ x ∈ textsN f k, x.length ≤ 3 * k
  | 0, x, h => by
    rw [textsN, List.mem_singleton] at h; subst h; decide
  | k + 1, x, h => by
    rw [textsN] at h
    rcases List.mem_append.mp h with h | h
    · have := textsN_small f k x h; omega
    · rw [List.mem_singleton] at h
      subst h
      rw [Str.length_append, Str.length_append, lit_sep]
      have h1 := nmT_len k
      have h2 : ((textsN f k)[f k]?.getD (Str.ofString "")).length ≤ 3 * k := by
        cases e : (textsN f k)[f k]? with
        | none => rw [Option.getD_none, lit_nil]; omega
        | some y => exact textsN_small f k y (List.mem_of_getElem? e)
      omega
section
variable {prog : Program} {w : World} {A : Around} {E : Value → Shared → Prop} {s : Shared} {hT : Heap} {mg mb : Str → Option Value} {Q : Value → Shared → Prop}
theorem item_tupN {value slice : Expr} {a : Addr} {vs : List Value} {k : Nat} {u : Tok} {v : Value} (ht : Has s.heap a (isTup vs)) (hx : vs[k]? = some v) (hk : k < 1000) (h : Q v s)
    (hs : subscripted slice false (.ref a) (.int k u) = operate [.ref a, .int k u] (getItem (.ref a) (.int k u)) := by with_unfolding_all rfl) :
    wpAny (model prog w) A (subscriptTail value slice (.ref a) (.int k u)) Q E s := by
  have hlt := (List.getElem?_eq_some_iff.mp hx).1
  refine item_tupleT (j := k) (l := vs) ?_ (by omega) (by omega) ?_ hx h hs
  · exact ⟨_, ht.tup, rfl, 0, rfl⟩
  · unfold seqIndex?
    have h0 : ¬ ((k : Int) < 0) := by omega
    simp only [h0, if_false]
    rw [if_pos (by simp only [Bool.and_eq_true, decide_eq_true_eq]; omega)]
    simp
theorem texts_spec {ova : Addr} {lo : List (Int × Tok)} {f : Nat → Nat} (O : Ok w mg mb hT) (kT : Sub hT s.heap) (R : Room A 1) (hl : s.heap.IsList ova (intValues lo).toArray) (hlo : lo.map (·.1) = [(f 0 : Int), (f 1 : Int), (f 2 : Int), (f 3 : Int)]) (hf : ∀ k, k < 4 → f k ≤ k)
    (h : ∀ h' tk' a l', Sub s.heap h' → s.heap.get? a = none → Has h' a (isLst (strValues l')) → l'.map (·.1) = textsN f 4 → Q (.ref a) { s with heap := h', toks := tk' }) :
    wpAny (model prog w) A (call (.ref 237) [.ref ova]) Q E s := by
  have hsl : sizeLine = 16777216 := rfl
  refine enter [(Str.ofString "overs", .ref ova)].reverse [] [] O kT (by simp) rfl rfl R.depth (by simp) (by simp) rfl (locs rfl) ?_
  intro L h₁ tk O' F N
  rw [List.reverse_reverse] at F
  refine wpAny_execs_cons ?_
  refine wpAny_Assign_Name ?_ (by with_unfolding_all rfl)
  refine List_ ?_
  refine args_cons ?_ (by with_unfolding_all rfl)
  refine cst_str ?_; intro t' k'
  refine args_nil ?_
  refine newLst (by assumption) (by assumption) (by with_unfolding_all exact Nat.le_of_ble_eq_true rfl) ?_; intro a' h' F' N'
  refine qst ?_; intro h' tk' F' N'
  obtain ⟨T', hT'⟩ : ∃ x, x = a' := ⟨_, rfl⟩
  subst hT'
  refine wpAny_execs_cons ?_
  refine wpAny_For ?_ (by intro _; with_unfolding_all rfl)
  refine Call_ ?_ (by with_unfolding_all rfl)
  refine qbl (gn_range _) boot_range ?_
  refine Pv.callWith_type1 ?_ (by with_unfolding_all rfl) (by with_unfolding_all rfl)
  refine args_cons ?_ (by with_unfolding_all rfl)
  refine cst_int ?_; intro t' k'
  refine args_nil ?_
  refine rangeC (by assumption) (by assumption) ?_; intro a' h' t1' t3' tk' F' N' H'
  dsimp only
  obtain ⟨u', F''⟩ := F'.sel [(Str.ofString "texts", .ref T'), (Str.ofString "overs", .ref ova)] (by with_unfolding_all rfl)
  have hnm : ∀ k, k < 4 → ∀ t1 t2 t3 t4, ∃ t, [Value.str (Str.ofString "a") t1, .str (Str.ofString "b") t2, .str (Str.ofString "a-") t3, .str (Str.ofString "c") t4][k]? = some (.str (nmT k) t) := by
    intro k hk t1 t2 t3 t4
    have e : k = 0 ∨ k = 1 ∨ k = 2 ∨ k = 3 := by omega
    rcases e with rfl | rfl | rfl | rfl <;> exact ⟨_, rfl⟩
  have hov : ∀ k, k < 4 → ∃ t, (intValues lo)[k]? = some (.int (f k : Int) t) := by
    intro k hk
    refine intValues_get hlo ?_
    have e : k = 0 ∨ k = 1 ∨ k = 2 ∨ k = 3 := by omega
    rcases e with rfl | rfl | rfl | rfl <;> rfl
  have hlz : lo.length = 4 := by have := congrArg List.length hlo; simpa using this
  refine for_rng R.hh (n := 4) (by decide) H' (fun i _ ps led => ∃ l' : List (Str × Tok), ps = [(Str.ofString "texts", .ref T'), (Str.ofString "overs", .ref ova)] ∧ led = [(T', isLst (strValues l'))] ∧ l'.map (·.1) = textsN f i) F'' N' ⟨[(Str.ofString "", _)], rfl, rfl, rfl⟩ ?_ ?_
  · rintro i t h2 tk2 g1 gI ps u2 led hi kg kI ⟨l', rfl, rfl, hl'⟩ hd F2 N2
    have O2 := O'.keeps (kg.trans kI)
    have hl2 := (kg.trans kI).lst (hide_lst hl)
    obtain ⟨to, hto⟩ := hov i hi
    have hfi := hf i hi
    have hlen : l'.length = i + 1 := by have := congrArg List.length hl'; rw [textsN_length] at this; simpa using this
    obtain ⟨x, hx⟩ : ∃ x, (textsN f i)[f i]? = some x := ⟨_, List.getElem?_eq_getElem (by rw [textsN_length]; omega)⟩
    have hxz := textsN_small f i x (List.mem_of_getElem? hx)
    have hnz := nmT_len i
    obtain ⟨tx, htx⟩ := strValues_get hl' hx
    have hvz : (strValues l').length = i + 1 := by unfold strValues; simpa using hlen
    refine wpAny_assign_Name ?_
    refine qst ?_; intro h' tk' F' N'
    refine wpAny_execs_cons ?_
    refine wpAny_Expr ?_ (by with_unfolding_all rfl) (by with_unfolding_all rfl)
    refine callLst PySem.F.slot_list_append PySem.F.type_list_append ?_ (by with_unfolding_all rfl) (by with_unfolding_all rfl) (by with_unfolding_all rfl)
    refine qlo ?_
    refine ⟨_, _, rfl, Led.get (by assumption) 0 (by with_unfolding_all rfl), ?_⟩
    refine args_cons ?_ (by with_unfolding_all rfl)
    refine wpAny_BinOp ?_
    refine wpAny_BinOp ?_
    refine Subscript_ ?_
    refine qlo ?_
    refine Subscript_ ?_
    refine qlo ?_
    refine qlo ?_
    dsimp only
    refine item_lstN (F'.lst hl2) (by rw [intValues_len]; omega) hto ?_
    skip
    refine item_lstN (N'.get 0 rfl).list (by omega) htx ?_
    refine cst_str ?_; intro t' k'
    refine add_txt (by walk_at "size") ?_; intro t' k'
    refine Subscript_ ?_
    refine Tuple_ ?_
    refine args_cons ?_ (by with_unfolding_all rfl)
    refine cst_str ?_; intro t' k'
    refine args_cons ?_ (by with_unfolding_all rfl)
    refine cst_str ?_; intro t' k'
    refine args_cons ?_ (by with_unfolding_all rfl)
    refine cst_str ?_; intro t' k'
    refine args_cons ?_ (by with_unfolding_all rfl)
    refine cst_str ?_; intro t' k'
    refine args_nil ?_
    refine newTup (by assumption) (by assumption) (by with_unfolding_all exact Nat.le_of_ble_eq_true rfl) ?_; intro a' h' F' N'
    refine qlo ?_
    dsimp only
    obtain ⟨tn, htn⟩ := hnm i hi _ _ _ _
    refine item_tupN (N'.get 0 rfl) htn (by omega) ?_
    refine add_txt (by walk_at "size") ?_; intro t' k'
    refine args_nil ?_
    dsimp only
    refine append_lst (N'.get 1 rfl) (by omega) ?_
    intro h5 H5 k5
    have F5 := F'.upd (N'.ne 1 rfl) (N'.off 1 rfl) k5
    have N5 := N'.upd 1 rfl k5 H5
    rw [strValues_snoc] at N5
    refine wpAny_execs_nil ?_
    dsimp only
    obtain ⟨u6, F6⟩ := F5.sel [(Str.ofString "texts", .ref T'), (Str.ofString "overs", .ref ova)] (by with_unfolding_all rfl)
    refine ⟨_, _, _, u6, [_], [_], rfl, F6, N5, rfl, fun g2 _ _ => ⟨_, rfl, rfl, ?_⟩⟩
    rw [List.map_append, hl', textsN, hx]; rfl
  · rintro h2 tk2 g1 ps u2 led kg ⟨l', rfl, rfl, hl'⟩ hd F2 N2
    refine wpAny_execs_nil ?_
    refine wpAny_execs_cons ?_
    refine wpAny_Return_some ?_
    refine qlo ?_
    dsimp only
    exact h _ _ T' l' (keeps_of (F2.weak kg)).sub (N2.fresh kg 0 rfl) (N2.get 0 rfl) hl'
end
end
/-! Dct -/
section
section
variable {prog : Program} {w : World} {A : Around} {E : Value → Shared → Prop} {s : Shared} {env : Env} {g : Heap} {L : Addr} {m : Str → Option Value} {led : Lg} {Q : Value → Shared → Prop}
theorem newDct {pos : Pos} (F : Fm g L s.heap m) (N : Led g L s.heap led) (h : ∀ a h', Fm g L h' m → Led g L h' ((a, isDct prog w []) :: led) → Q (.ref a) { s with heap := h' }) : wpAny (model prog w) A (eval (.Dict [] [] pos) env) Q E s := by
  refine wpAny_Dict_empty ?_
  exact h _ _ (F.sub (sub_push _ _)) (N.new F _ _ (by
    obtain ⟨o, ho, hd⟩ := Heap.dictOf_iff.mp (Heap.DictOf.new (knd := PySem.strKind prog w) s.heap)
    rw [Heap.get?_push_size _ rfl] at ho
    cases ho; exact hd) rfl)
theorem setDct {d : Addr} {kvs : List (Str × Value)} {k : Str} {t : Tok} {v : Value} {Q : Unit → Shared → Prop} (hd : Has s.heap d (isDct prog w kvs)) (hz : kvs.length ≤ sizeLine)
    (h : ∀ h' tk', Has h' d (isDct prog w (stored kvs k v)) → Keeps [d] s.heap h' → Q () { s with heap := h', toks := tk' }) : wpAny (model prog w) A (setItem (.ref d) (.str k t) v) Q E s :=
  wpAny_setItem_pairs (knd := PySem.strKind prog w) (k := k) (hsz := hz) (by simp [PySem.strKind, Value.isStrOf]) (Heap.dictOf_iff.mpr hd) fun h' hm hs => h h' _ (Heap.dictOf_iff.mp hm) (keeps_same hs)
theorem itemDct {value slice : Expr} {d : Addr} {kvs : List (Str × Value)} {k : Str} {t : Tok} {v : Value} (hd : Has s.heap d (isDct prog w kvs)) (hv : valueAt kvs k = some v) (h : ∀ tk, Q v { s with toks := tk })
    (hs : subscripted slice false (.ref d) (.str k t) = operate [.ref d, .str k t] (getItem (.ref d) (.str k t)) := by with_unfolding_all rfl) :
    wpAny (model prog w) A (subscriptTail value slice (.ref d) (.str k t)) Q E s := by
  have hm := (Heap.dictOf_iff.mpr hd).mapOf
  exact tail_any hm.typeIs slot_dict_getitem.lookup (wpAny_getItem_of (knd := PySem.strKind prog w) (k := k) (by simp [PySem.strKind, Value.isStrOf]) hm hv (h _)) hs
theorem itemS {value slice : Expr} {x : Str} {k c : Nat} {t u : Tok} (hc : x.cps[k]? = some c) (hk : k < 1000) (h : ∀ t' tk, Q (.str ⟨#[c]⟩ t') { s with toks := tk })
    (hs : subscripted slice false (.str x t) (.int k u) = operate [.str x t, .int k u] (getItem (.str x t) (.int k u)) := by with_unfolding_all rfl) :
    wpAny (model prog w) A (subscriptTail value slice (.str x t) (.int k u)) Q E s := by
  have hlt : k < x.length := by
    rw [Array.getElem?_eq_some_iff] at hc; exact hc.1
  refine tail_any (typeIs_str _ _ _) F.slot_str_getitem.lookup (P.getItem_str (c := c) ?_ ?_ (h _ _)) hs
  · simp only [Bool.or_eq_false_iff, decide_eq_false_iff_not]; omega
  · have : seqIndex? (k : Int) x.length = some k := by
      unfold seqIndex?
      have h0 : ¬ ((k : Int) < 0) := by omega
      simp only [h0, if_false]
      rw [if_pos (by simp only [Bool.and_eq_true, decide_eq_true_eq]; omega)]
      simp
    rw [this]; exact hc
theorem valueAt_get {kvs : List (Str × Value)} (hn : (kvs.map (·.1)).Nodup) {i : Nat} {k : Str} {v : Value} (h : kvs[i]? = some (k, v)) : valueAt kvs k = some v := by
  unfold valueAt
  induction kvs generalizing i with
  | nil => simp at h
  | cons p r ih =>
    rw [List.map_cons, List.nodup_cons] at hn
    cases i with
    | zero => simp at h; subst h; simp
    | succ i =>
      rw [List.getElem?_cons_succ] at h
      have hne : ¬ (p.1 = k) := fun e => hn.1 (e ▸ List.mem_map.mpr ⟨_, List.mem_of_getElem? h, rfl⟩)
      rw [List.find?_cons, decide_eq_false hne]
      exact ih hn.2 h
theorem stored_new {kvs : List (Str × Value)} {k : Str} {v : Value} (h : k ∉ kvs.map (·.1)) : stored kvs k v = kvs ++ [(k, v)] := by
  unfold stored
  rw [if_neg]
  intro q
  obtain ⟨kv, hkv, e⟩ := List.any_eq_true.mp q
  exact h (by rw [← of_decide_eq_true e]; exact List.mem_map_of_mem hkv)
theorem stored_old {kvs : List (Str × Value)} (hn : (kvs.map (·.1)).Nodup) {i : Nat} {k : Str} {v v' : Value} (h : kvs[i]? = some (k, v)) : stored kvs k v' = kvs.set i (k, v') := by
  unfold stored
  rw [if_pos (List.any_eq_true.mpr ⟨_, List.mem_of_getElem? h, by simp⟩)]
  refine List.ext_getElem? fun j => ?_
  rw [List.getElem?_map, List.getElem?_set]
  by_cases hij : i = j
  · subst hij
    rw [if_pos rfl, h, if_pos (List.getElem?_eq_some_iff.mp h).1]
    simp
  · rw [if_neg hij]
    cases e : kvs[j]? with
    | none => rfl
    | some p =>
      have hne : ¬ (p.1 = k) := fun e2 => hij ((List.getElem?_inj (by simpa using (List.getElem?_eq_some_iff.mp h).1) hn).mp (by rw [List.getElem?_map, List.getElem?_map, h, e]; simp [e2]))
      simp [hne]
theorem getDct {d : Addr} {kvs : List (Str × Value)} {k : Str} {t : Tok} {v dflt : Value} (hne : (d == sysModules) = false) (hd : Has s.heap d (isDct prog w kvs)) (hv : valueAt kvs k = some v) (h : ∀ tk, Q v { s with toks := tk }) :
    wpAny (model prog w) A (call (.builtin "dict.get") [.ref d, .str k t, dflt]) Q E s := by
  have hD := Heap.dictOf_iff.mpr hd
  exact call_meetsIn PySem.F.slot_dict_get hD.typeIs PySem.F.entry_dict_get (PySem.F.args_dict_get_3 _ _ _) (meets_dict_get_default (PySem.strKind prog w) d (k := k) (by simp [PySem.strKind, Value.isStrOf]) hne dflt) ⟨_, hD.mapOf, by rw [hv]; exact h _⟩
theorem notInDct {d : Addr} {kvs : List (Str × Value)} {k : Str} {t : Tok} (hne : (d == sysModules) = false) (hd : Has s.heap d (isDct prog w kvs)) (h : ∀ tk, Q (.bool (!(valueAt kvs k).isSome)) { s with toks := tk }) :
    wpAny (model prog w) A (compareOp .NotIn (.str k t) (.ref d)) Q E s :=
  wpAny_notIn_of (knd := PySem.strKind prog w) (k := k) (by simp [PySem.strKind, Value.isStrOf]) hne (Heap.dictOf_iff.mpr hd).mapOf (h _)
/-- a method of a dict -/
theorem callDct {id : String} {name : Str} {o e : Expr} {rest : List Expr} {apos pos : Pos} {pl : Sem Bool} (slot : Slot "dict" name id) (ty : typeOf (.builtin id) = pure (.type "method_descriptor"))
    (h : wpAny (model prog w) A (eval o env) (fun ov s₁ => ∃ d kvs, ov = .ref d ∧ Has s₁.heap d (isDct prog w kvs) ∧ wpAny (model prog w) A (spliced (backTo pos (starEach (e :: rest) env))) (fun vs s₂ => wpAny (model prog w) A (call (.builtin id) (.ref d :: vs)) Q E s₂) E s₁) E s)
    (he : eval (.Call (.Attribute o name apos) (e :: rest) [] pos) env = (do
      let ov ← eval o env
      standAt apos.atName
      let (f, first) ← holding [ov] (getMethod ov name pl)
      callWith pos f first (backTo pos (starEach (e :: rest) env)) []))
    (hs : starEach (e :: rest) env = (false, eval e env) :: starEach rest env) (hplain : (backTo pos (starEach rest env)).any (·.1) = false) :
    wpAny (model prog w) A (eval (.Call (.Attribute o name apos) (e :: rest) [] pos) env) Q E s := by
  refine MethodCall_ (wpAny_mono h (fun ov s₁ q => ?_) fun _ _ x => x) he
  obtain ⟨d, kvs, rfl, hl, q⟩ := q
  have hD := Heap.dictOf_iff.mpr hl
  exact getMethod_builtin hD.typeIs PySem.F.plainAttrs_dict slot ty hD.mapOf.noDict (callWith_method1 q hs hplain)
theorem norm_call {mg mb : Str → Option Value} {p : Str} {t : Tok} (O : Ok w mg mb g) (F : Fm g L s.heap m) (N : Led g L s.heap led) (R : Room A 3) (ok : normOk p = true)
    (h : ∀ h' tk' t', Fm g L h' m → Led g L h' led → Q (.str (normF p) t') { s with heap := h', toks := tk' }) :
    wpAny (model prog w) A (call (.ref 136) [.str p t]) Q E s := norm_spec O F.keep R ok fun h' tk' t' k => h h' tk' t' (F.sub k) (N.sub k)
theorem filemode_call {mg mb : Str → Option Value} {n : Int} {t : Tok} (O : Ok w mg mb g) (F : Fm g L s.heap m) (N : Led g L s.heap led) (R : Room A 3)
    (h : ∀ h' tk' t', Fm g L h' m → Led g L h' led → Q (.str (fmF n) t') { s with heap := h', toks := tk' }) :
    wpAny (model prog w) A (call (.ref 225) [.int n t]) Q E s := filemode_spec O F.keep R fun h' tk' t' k => h h' tk' t' (F.sub k) (N.sub k)
end
end
/-! LawC -/
section
section
variable {prog : Program} {w : World} {A : Around} {E : Value → Shared → Prop} {s : Shared} {Q : Value → Shared → Prop}
theorem modN {a b : Nat} {t u : Tok} (hb : 0 < b) (h : ∀ t' tk, Q (.int ((a % b : Nat) : Int) t') { s with toks := tk }) : wpAny (model prog w) A (binaryOp .Mod (.int (a : Int) t) (.int (b : Int) u)) Q E s := by
  refine modI (by omega) fun t' tk => ?_
  rw [show (a : Int).fmod (b : Int) = ((a % b : Nat) : Int) by rw [Int.fmod_eq_emod_of_nonneg _ (by omega)]; rfl]
  exact h t' tk
theorem divN {a b : Nat} {t u : Tok} (hb : 0 < b) (hb2 : b < 2 ^ 30) (h : ∀ t' tk, Q (.int ((a / b : Nat) : Int) t') { s with toks := tk }) : wpAny (model prog w) A (binaryOp .FloorDiv (.int (a : Int) t) (.int (b : Int) u)) Q E s := by
  refine divI (by omega) (by omega) fun t' tk => ?_
  rw [show (a : Int).fdiv (b : Int) = ((a / b : Nat) : Int) by rw [Int.fdiv_eq_ediv_of_nonneg _ (by omega)]; rfl]
  exact h t' tk
end
def linkLead (c : Nat) : Nat → Str
  | 0 => Str.ofString "/."
  | 1 => Txt.mul (Str.ofString "../") (c : Int) ++ Str.ofString "."
  | _ => (Str.ofString "x/../" ++ Txt.mul (Str.ofString "../") ((c + 1 : Nat) : Int)) ++ Str.ofString "."
def linkKey (tx : Nat → Str) (nu : Nat → Nat) (k : Nat) : Str := (tx (nu k % 5) ++ Str.ofString "/") ++ ⟨#[108 + k]⟩
def linkVal (tx : Nat → Str) (cnt nu : Nat → Nat) (k : Nat) : Str := linkLead (cnt (nu k % 5)) (nu k / 25 % 3) ++ tx (nu k / 5 % 5)
def strDct (l : List (Str × Str × Tok)) : List (Str × Value) := l.map fun p => (p.1, .str p.2.1 p.2.2)
theorem strDct_keys (l : List (Str × Str × Tok)) : (strDct l).map (·.1) = l.map (·.1) := by unfold strDct; simp
/-- what is known of the five texts -/
structure Txs (tx : Nat → Str) (cnt : Nat → Nat) : Prop where
  len : ∀ j, j < 5 → (tx j).length ≤ 12
  cn : ∀ j, j < 5 → Txt.count (tx j) (Str.ofString "/") = (cnt j : Int)
  small : ∀ j, j < 5 → cnt j ≤ 4
section
variable {prog : Program} {w : World} {A : Around} {E : Value → Shared → Prop} {s : Shared} {hT : Heap} {mg mb : Str → Option Value} {Q : Value → Shared → Prop}
theorem mulN {x : Str} {n : Nat} {t u : Tok} (hx : x.length ≤ 10) (hn : n ≤ 100) (h : ∀ t' tk, Q (.str (Txt.mul x n) t') { s with toks := tk }) : wpAny (model prog w) A (binaryOp .Mult (.str x t) (.int n u)) Q E s :=
  mulS 10 100 hx (by omega) (by omega) (by decide) (by decide) h
theorem mul_small (c : Nat) (hc : c ≤ 5) : (Txt.mul (Str.ofString "../") (c : Int)).length ≤ 15 := by
  have e : c = 0 ∨ c = 1 ∨ c = 2 ∨ c = 3 ∨ c = 4 ∨ c = 5 := by omega
  rcases e with rfl | rfl | rfl | rfl | rfl | rfl <;> decide +kernel
theorem linkLead_small (c r : Nat) (hc : c ≤ 4) : (linkLead c r).length ≤ 21 := by
  match r with
  | 0 => show (Str.ofString "/.").length ≤ 21; decide
  | 1 => show (_ ++ _ : Str).length ≤ 21; rw [Str.length_append, lit_dot]; have := mul_small c (by omega); omega
  | r + 2 => show ((_ ++ _) ++ _ : Str).length ≤ 21; rw [Str.length_append, Str.length_append, lit_dot, lit_x]; have := mul_small (c + 1) (by omega); omega
theorem lead_get (c r : Nat) (hr : r < 3) (t1 t2 t3 : Tok) : ∃ t, [Value.str (Str.ofString "/.") t1, .str (Txt.mul (Str.ofString "../") (c : Int) ++ Str.ofString ".") t2, .str (Str.ofString "x/../" ++ Txt.mul (Str.ofString "../") ((c + 1 : Nat) : Int) ++ Str.ofString ".") t3][r]? = some (.str (linkLead c r) t) := by
  have e : r = 0 ∨ r = 1 ∨ r = 2 := by omega
  rcases e with rfl | rfl | rfl <;> exact ⟨_, rfl⟩
theorem lmn_get (i : Nat) (hi : i < 3) : (Str.ofString "lmn").cps[i]? = some (108 + i) := by
  have e : i = 0 ∨ i = 1 ∨ i = 2 := by omega
  rcases e with rfl | rfl | rfl <;> decide +kernel
theorem strDct_snoc {l : List (Str × Str × Tok)} {k v : Str} {t : Tok} : strDct l ++ [(k, Value.str v t)] = strDct (l ++ [(k, v, t)]) := by unfold strDct; simp
theorem links_spec {na ta : Addr} {lN : List (Int × Tok)} {lT : List (Str × Tok)} {tx : Nat → Str} {cnt nu : Nat → Nat} (O : Ok w mg mb hT) (kT : Sub hT s.heap) (R : Room A 1) (hN : s.heap.IsList na (intValues lN).toArray) (hT2 : s.heap.IsList ta (strValues lT).toArray)
    (hnu : lN.map (·.1) = (List.range 8).map fun k => (nu k : Int)) (htx : lT.map (·.1) = (List.range 5).map tx) (T : Txs tx cnt) (hk : ∀ i j, i < j → j < 3 → linkKey tx nu i ≠ linkKey tx nu j)
    (h : ∀ h' tk' a l', Sub s.heap h' → s.heap.get? a = none → Has h' a (isDct prog w (strDct l')) → l'.map (fun p => (p.1, p.2.1)) = (List.range 3).map (fun k => (linkKey tx nu k, linkVal tx cnt nu k)) → Q (.ref a) { s with heap := h', toks := tk' }) :
    wpAny (model prog w) A (call (.ref 244) [.ref na, .ref ta]) Q E s := by
  have hsl : sizeLine = 16777216 := rfl
  refine enter [(Str.ofString "texts", .ref ta), (Str.ofString "numbers", .ref na)].reverse [] [] O kT (by simp) rfl rfl R.depth (by simp) (by simp) rfl (locs rfl) ?_
  intro L h₁ tk O' F N
  rw [List.reverse_reverse] at F
  refine wpAny_execs_cons ?_
  refine wpAny_Assign_Name ?_ (by with_unfolding_all rfl)
  refine newDct (by assumption) (by assumption) ?_; intro a' h' F' N'
  refine qst ?_; intro h' tk' F' N'
  obtain ⟨D, hD⟩ : ∃ x, x = a' := ⟨_, rfl⟩
  subst hD
  refine wpAny_execs_cons ?_
  refine wpAny_For ?_ (by intro _; with_unfolding_all rfl)
  refine Call_ ?_ (by with_unfolding_all rfl)
  refine qbl (gn_range _) boot_range ?_
  refine Pv.callWith_type1 ?_ (by with_unfolding_all rfl) (by with_unfolding_all rfl)
  refine args_cons ?_ (by with_unfolding_all rfl)
  refine cst_int ?_; intro t' k'
  refine args_nil ?_
  refine rangeC (by assumption) (by assumption) ?_; intro a' h' t1' t3' tk' F' N' H'
  dsimp only
  obtain ⟨u', F''⟩ := F'.sel [(Str.ofString "links", .ref D), (Str.ofString "texts", .ref ta), (Str.ofString "numbers", .ref na)] (by with_unfolding_all rfl)
  have hlN : lN.length = 8 := by have := congrArg List.length hnu; simpa using this
  have hlT : lT.length = 5 := by have := congrArg List.length htx; simpa using this
  have hsv : (strValues lT).length = 5 := by unfold strValues; simpa using hlT
  refine for_rng R.hh (n := 3) (by decide) H' (fun i _ ps led => ∃ l' : List (Str × Str × Tok), ps = [(Str.ofString "links", .ref D), (Str.ofString "texts", .ref ta), (Str.ofString "numbers", .ref na)] ∧ led = [(D, isDct prog w (strDct l'))] ∧ l'.map (fun p => (p.1, p.2.1)) = (List.range i).map (fun k => (linkKey tx nu k, linkVal tx cnt nu k))) F'' N' ⟨[], rfl, rfl, rfl⟩ ?_ ?_
  · rintro i t h2 tk2 g1 gI ps u2 led hi kg kI ⟨l', rfl, rfl, hl'⟩ hd F2 N2
    have O2 := O'.keeps (kg.trans kI)
    have hN2 := (kg.trans kI).lst (hide_lst hN)
    have hT3 := (kg.trans kI).lst (hide_lst hT2)
    obtain ⟨tn, htn⟩ := intValues_get hnu (show ((List.range 8).map fun k => (nu k : Int))[i]? = some (nu i : Int) by rw [List.getElem?_map, List.getElem?_range (by omega)]; rfl)
    have hget : ∀ j, j < 5 → ∃ t, (strValues lT)[j]? = some (.str (tx j) t) := fun j hj => strValues_get htx (by rw [List.getElem?_map, List.getElem?_range hj]; rfl)
    have hp : nu i % 5 < 5 := Nat.mod_lt _ (by decide)
    have hg : nu i / 5 % 5 < 5 := Nat.mod_lt _ (by decide)
    have hr : nu i / 25 % 3 < 3 := Nat.mod_lt _ (by decide)
    obtain ⟨tp, htp⟩ := hget _ hp
    obtain ⟨tg, htg⟩ := hget _ hg
    have hlen : l'.length = i := by have := congrArg List.length hl'; simpa using this
    have hc := T.cn _ hp
    have hcs := T.small _ hp
    have hz1 := T.len _ hp
    have hz2 := T.len _ hg
    have hm1 := mul_small (cnt (nu i % 5)) (by omega)
    have hm2 := mul_small (cnt (nu i % 5) + 1) (by omega)
    have hld := linkLead_small (cnt (nu i % 5)) (nu i / 25 % 3) hcs
    have hdl : (strDct l').length = i := by unfold strDct; simpa using hlen
    have hi2 : (⟨#[108 + i]⟩ : Str).length = 1 := rfl
    refine wpAny_assign_Name ?_
    refine qst ?_; intro h' tk' F' N'
    refine wpAny_execs_cons ?_
    refine wpAny_Assign_Name ?_ (by with_unfolding_all rfl)
    refine Subscript_ ?_
    refine qlo ?_
    refine wpAny_BinOp ?_
    refine Subscript_ ?_
    refine qlo ?_
    refine qlo ?_
    dsimp only
    refine item_lstN (F'.lst hN2) (by rw [intValues_len]; omega) htn ?_
    refine cst_int ?_; intro t' k'
    dsimp only
    refine modN (by decide) ?_; intro t5 tk5
    dsimp only
    refine item_lstN (F'.lst hT3) (by omega) htp ?_
    refine qst ?_; intro h' tk' F' N'
    refine wpAny_execs_cons ?_
    refine wpAny_Assign_Name ?_ (by with_unfolding_all rfl)
    refine callStr PySem.F.slot_str_count PySem.F.type_str_count ?_ (by with_unfolding_all rfl) (by with_unfolding_all rfl) (by with_unfolding_all rfl)
    refine qlo ?_
    refine ⟨_, _, rfl, ?_⟩
    refine args_cons ?_ (by with_unfolding_all rfl)
    refine cst_str ?_; intro t' k'
    refine args_nil ?_
    refine countS ?_; intro t' k'
    refine qst ?_; intro h' tk' F' N'
    refine wpAny_execs_cons ?_
    refine wpAny_Assign_Name ?_ (by with_unfolding_all rfl)
    refine Subscript_ ?_
    refine Tuple_ ?_
    refine args_cons ?_ (by with_unfolding_all rfl)
    refine cst_str ?_; intro t' k'
    refine args_cons ?_ (by with_unfolding_all rfl)
    refine wpAny_BinOp ?_
    refine wpAny_BinOp ?_
    refine cst_str ?_; intro t' k'
    refine qlo ?_
    dsimp only
    rw [hc] at F' ⊢
    refine mulN (by decide) (by omega) ?_; intro t6 tk6
    refine cst_str ?_; intro t' k'
    refine add_txt (by walk_at "size") ?_; intro t' k'
    refine args_cons ?_ (by with_unfolding_all rfl)
    refine wpAny_BinOp ?_
    refine wpAny_BinOp ?_
    refine cst_str ?_; intro t' k'
    refine wpAny_BinOp ?_
    refine cst_str ?_; intro t' k'
    refine wpAny_BinOp ?_
    refine qlo ?_
    refine cst_int ?_; intro t' k'
    refine addI ?_; intro t' k'
    dsimp only
    rw [show ((cnt (nu i % 5) : Int) + 1) = ((cnt (nu i % 5) + 1 : Nat) : Int) from rfl]
    refine mulN (by decide) (by omega) ?_; intro t7 tk7
    refine add_txt (by walk_at "size") ?_; intro t' k'
    refine cst_str ?_; intro t' k'
    refine add_txt (by walk_at "size") ?_; intro t' k'
    refine args_nil ?_
    refine newTup (by assumption) (by assumption) (by with_unfolding_all exact Nat.le_of_ble_eq_true rfl) ?_; intro a' h' F' N'
    refine wpAny_BinOp ?_
    refine wpAny_BinOp ?_
    refine Subscript_ ?_
    refine qlo ?_
    refine qlo ?_
    dsimp only
    refine item_lstN (F'.lst hN2) (by rw [intValues_len]; omega) htn ?_
    refine cst_int ?_; intro t' k'
    dsimp only
    refine divN (by decide) (by decide) ?_; intro t8 tk8
    refine cst_int ?_; intro t' k'
    dsimp only
    refine modN (by decide) ?_; intro t9 tk9
    obtain ⟨tl, htl⟩ := lead_get (cnt (nu i % 5)) _ hr _ _ _
    refine item_tupN (N'.get 0 rfl) htl (Nat.lt_trans hr (by decide)) ?_
    refine qst ?_; intro h' tk' F' N'
    refine wpAny_execs_cons ?_
    refine wpAny_Assign_Subscript ?_ (by with_unfolding_all rfl)
    refine wpAny_BinOp ?_
    refine qlo ?_
    refine Subscript_ ?_
    refine qlo ?_
    refine wpAny_BinOp ?_
    refine wpAny_BinOp ?_
    refine Subscript_ ?_
    refine qlo ?_
    refine qlo ?_
    dsimp only
    refine item_lstN (F'.lst hN2) (by rw [intValues_len]; omega) htn ?_
    refine cst_int ?_; intro t' k'
    dsimp only
    refine divN (by decide) (by decide) ?_; intro t10 tk10
    refine cst_int ?_; intro t' k'
    dsimp only
    refine modN (by decide) ?_; intro t11 tk11
    refine item_lstN (F'.lst hT3) (by omega) htg ?_
    refine add_txt (by walk_at "size") ?_; intro t' k'
    refine qlo ?_
    refine wpAny_BinOp ?_
    refine wpAny_BinOp ?_
    refine qlo ?_
    refine cst_str ?_; intro t' k'
    refine add_txt (by walk_at "size") ?_; intro t' k'
    refine Subscript_ ?_
    refine cst_str ?_; intro t' k'
    refine qlo ?_
    dsimp only
    refine itemS (x := Str.ofString "lmn") (k := i) (c := 108 + i) (lmn_get i hi) (by omega) ?_
    intro t12 tk12
    refine add_txt (by walk_at "size") ?_; intro t' k'
    dsimp only
    refine setDct (N'.get 1 rfl) (by omega) ?_
    intro h5 tk5 H5 k5
    have F5 := F'.upd (N'.ne 1 rfl) (N'.off 1 rfl) k5
    have N5 := N'.upd 1 rfl k5 H5
    have hnew : linkKey tx nu i ∉ (strDct l').map (·.1) := by
      rw [strDct_keys]
      intro q
      have e : l'.map (·.1) = (List.range i).map (linkKey tx nu) := by
        have := congrArg (List.map (·.1)) hl'
        simpa [Function.comp_def] using this
      rw [e] at q
      obtain ⟨j, hj, e2⟩ := List.mem_map.mp q
      exact hk j i (List.mem_range.mp hj) hi e2
    rw [show tx (nu i % 5) ++ Str.ofString "/" ++ ⟨#[108 + i]⟩ = linkKey tx nu i from rfl, stored_new hnew] at N5
    refine wpAny_execs_nil ?_
    dsimp only
    obtain ⟨u6, F6⟩ := F5.sel [(Str.ofString "links", .ref D), (Str.ofString "texts", .ref ta), (Str.ofString "numbers", .ref na)] (by with_unfolding_all rfl)
    rw [strDct_snoc] at N5
    refine ⟨_, _, _, u6, [_], [_], rfl, F6, N5, rfl, fun g2 _ _ => ⟨_, rfl, rfl, ?_⟩⟩
    rw [List.map_append, hl', List.range_succ, List.map_append]; rfl
  · rintro h2 tk2 g1 ps u2 led kg ⟨l', rfl, rfl, hl'⟩ hd F2 N2
    refine wpAny_execs_nil ?_
    refine wpAny_execs_cons ?_
    refine wpAny_Return_some ?_
    refine qlo ?_
    dsimp only
    exact h _ _ D l' (keeps_of (F2.weak kg)).sub (N2.fresh kg 0 rfl) (N2.get 0 rfl) hl'
end
end
/-! LawD -/
section
def intDct (l : List (Str × Int × Tok)) : List (Str × Value) := l.map fun p => (p.1, .int p.2.1 p.2.2)
theorem intDct_keys (l : List (Str × Int × Tok)) : (intDct l).map (·.1) = l.map (·.1) := by unfold intDct; simp
theorem intDct_snoc {l : List (Str × Int × Tok)} {k : Str} {v : Int} {t : Tok} : intDct l ++ [(k, Value.int v t)] = intDct (l ++ [(k, v, t)]) := by unfold intDct; simp
theorem intDct_len {l : List (Str × Int × Tok)} : (intDct l).length = l.length := by unfold intDct; simp
theorem keys_of {α β : Type} {l : List (Str × α × β)} {m : List (Str × α)} (h : l.map (fun p => (p.1, p.2.1)) = m) : l.map (·.1) = m.map (·.1) := by rw [← h, List.map_map]; rfl
def foldKey (tx : Nat → Str) (j : Nat) : Str := if (tx j).length ≠ 0 then tx j else Str.ofString "/"
section
variable {prog : Program} {w : World} {A : Around} {E : Value → Shared → Prop} {s : Shared} {hT : Heap} {mg mb : Str → Option Value} {Q : Value → Shared → Prop}
theorem modes_spec {ta ra la : Addr} {lT : List (Str × Tok)} {lR : List (Int × Tok)} {ll : List (Str × Str × Tok)} {tx lk : Nat → Str} {r : Nat → Nat} (O : Ok w mg mb hT) (kT : Sub hT s.heap) (R : Room A 1)
    (hT2 : s.heap.IsList ta (strValues lT).toArray) (hR : s.heap.IsList ra (intValues lR).toArray) (hL : Has s.heap la (isDct prog w (strDct ll))) (hla : (la == sysModules) = false)
    (htx : lT.map (·.1) = (List.range 5).map tx) (hr : lR.map (·.1) = (List.range 5).map fun k => (r k : Int)) (hlk : ll.map (·.1) = (List.range 3).map lk) (hlen : ∀ j, j < 5 → (tx j).length ≤ 12)
    (hnd : ((List.range 5).map (foldKey tx) ++ (List.range 3).map lk).Nodup)
    (h : ∀ h' tk' a l', Sub s.heap h' → s.heap.get? a = none → Has h' a (isDct prog w (intDct l')) → l'.map (fun p => (p.1, p.2.1)) = (List.range 5).map (fun k => (foldKey tx k, (16384 : Int) + (r k : Int))) ++ (List.range 3).map (fun k => (lk k, (41471 : Int))) → Q (.ref a) { s with heap := h', toks := tk' }) :
    wpAny (model prog w) A (call (.ref 251) [.ref ta, .ref ra, .ref la]) Q E s := by
  have hsl : sizeLine = 16777216 := rfl
  refine enter [(Str.ofString "links", .ref la), (Str.ofString "rights", .ref ra), (Str.ofString "texts", .ref ta)].reverse [] [] O kT (by simp) rfl rfl R.depth (by simp) (by simp) rfl (locs rfl) ?_
  intro L h₁ tk O' F N
  rw [List.reverse_reverse] at F
  refine wpAny_execs_cons ?_
  refine wpAny_Assign_Name ?_ (by with_unfolding_all rfl)
  refine newDct (by assumption) (by assumption) ?_; intro a' h' F' N'
  refine qst ?_; intro h' tk' F' N'
  obtain ⟨D, hD⟩ : ∃ x, x = a' := ⟨_, rfl⟩
  subst hD
  refine wpAny_execs_cons ?_
  refine wpAny_For ?_ (by intro _; with_unfolding_all rfl)
  refine Call_ ?_ (by with_unfolding_all rfl)
  refine qbl (gn_range _) boot_range ?_
  refine Pv.callWith_type1 ?_ (by with_unfolding_all rfl) (by with_unfolding_all rfl)
  refine args_cons ?_ (by with_unfolding_all rfl)
  refine cst_int ?_; intro t' k'
  refine args_nil ?_
  refine rangeC (by assumption) (by assumption) ?_; intro a' h' t1' t3' tk' F' N' H'
  dsimp only
  obtain ⟨u', F''⟩ := F'.sel [(Str.ofString "modes", .ref D), (Str.ofString "links", .ref la), (Str.ofString "rights", .ref ra), (Str.ofString "texts", .ref ta)] (by with_unfolding_all rfl)
  have hlT : lT.length = 5 := by have := congrArg List.length htx; simpa using this
  have hlR : lR.length = 5 := by have := congrArg List.length hr; simpa using this
  have hsv : (strValues lT).length = 5 := by unfold strValues; simpa using hlT
  refine for_rng R.hh (n := 5) (by decide) H' (fun i _ ps led => ∃ l' : List (Str × Int × Tok), ps = [(Str.ofString "modes", .ref D), (Str.ofString "links", .ref la), (Str.ofString "rights", .ref ra), (Str.ofString "texts", .ref ta)] ∧ led = [(D, isDct prog w (intDct l'))] ∧ l'.map (fun p => (p.1, p.2.1)) = (List.range i).map (fun k => (foldKey tx k, (16384 : Int) + (r k : Int)))) F'' N' ⟨[], rfl, rfl, rfl⟩ ?_ ?_
  · rintro i t h2 tk2 g1 gI ps u2 led hi kg kI ⟨l', rfl, rfl, hl'⟩ hd F2 N2
    have O2 := O'.keeps (kg.trans kI)
    have hT3 := (kg.trans kI).lst (hide_lst hT2)
    have hR3 := (kg.trans kI).lst (hide_lst hR)
    obtain ⟨tr, htr⟩ := intValues_get hr (show ((List.range 5).map fun k => (r k : Int))[i]? = some (r i : Int) by rw [List.getElem?_map, List.getElem?_range hi]; rfl)
    obtain ⟨tt, htt⟩ := strValues_get htx (show ((List.range 5).map tx)[i]? = some (tx i) by rw [List.getElem?_map, List.getElem?_range hi]; rfl)
    have hl2 : l'.length = i := by have := congrArg List.length hl'; simpa using this
    have hz := hlen i hi
    have hdl : (intDct l').length = i := by rw [intDct_len]; exact hl2
    have hnew : foldKey tx i ∉ (intDct l').map (·.1) := by
      rw [intDct_keys, keys_of hl', List.map_map]
      intro q
      obtain ⟨j, hj, e2⟩ := List.mem_map.mp q
      have hj := List.mem_range.mp hj
      have e3 : foldKey tx j = foldKey tx i := e2
      have := (List.getElem?_inj (i := j) (j := i) (by simp; omega) hnd).mp (by rw [List.getElem?_append_left (by simp; omega), List.getElem?_append_left (by simp; omega), List.getElem?_map, List.getElem?_map, List.getElem?_range (by omega), List.getElem?_range hi]; simp [e3])
      omega
    refine wpAny_assign_Name ?_
    refine qst ?_; intro h' tk' F' N'
    refine wpAny_execs_cons ?_
    refine wpAny_Assign_Subscript ?_ (by with_unfolding_all rfl)
    refine wpAny_BinOp ?_
    refine cst_int ?_; intro t' k'
    refine Subscript_ ?_
    refine qlo ?_
    refine qlo ?_
    dsimp only
    refine item_lstN (F'.lst hR3) (by rw [intValues_len]; omega) htr ?_
    refine addI ?_; intro t' k'
    refine qlo ?_
    refine BoolOp_or ?_
    refine Subscript_ ?_
    refine qlo ?_
    refine qlo ?_
    dsimp only
    refine item_lstN (F'.lst hT3) (by omega) htt ?_
    refine truthyS (by walk_at "size") ?_; intro k'
    dsimp only
    have fin : ∀ {h5 : Heap} {tk5 : Nat} {s₀ : Shared} {t' : Tok}, Fm gI L h5 (ov [(Str.ofString "k", .int i t), (Str.ofString "modes", .ref D), (Str.ofString "links", .ref la), (Str.ofString "rights", .ref ra), (Str.ofString "texts", .ref ta)] u2) → Led gI L h5 [(D, isDct prog w (stored (intDct l') (foldKey tx i) (.int (16384 + (r i : Int)) t')))] →
        TurnEnd g1 gI L (List.map (fun x => x.1) [(D, isDct prog w [])]) (fun _ ps led => ∃ l' : List (Str × Int × Tok), ps = [(Str.ofString "modes", .ref D), (Str.ofString "links", .ref la), (Str.ofString "rights", .ref ra), (Str.ofString "texts", .ref ta)] ∧ led = [(D, isDct prog w (intDct l'))] ∧ l'.map (fun p => (p.1, p.2.1)) = (List.range (i + 1)).map (fun k => (foldKey tx k, (16384 : Int) + (r k : Int)))) s₀ { s₀ with heap := h5, toks := tk5 } := by
      intro h5 tk5 s₀ t' F5 N5
      rw [stored_new hnew, intDct_snoc] at N5
      obtain ⟨u6, F6⟩ := F5.sel [(Str.ofString "modes", .ref D), (Str.ofString "links", .ref la), (Str.ofString "rights", .ref ra), (Str.ofString "texts", .ref ta)] (by with_unfolding_all rfl)
      refine ⟨_, _, _, u6, [], [_], rfl, F6, N5, rfl, fun g2 _ _ => ⟨_, rfl, rfl, ?_⟩⟩
      rw [List.map_append, hl', List.range_succ, List.map_append]; rfl
    by_cases c1 : (tx i).length ≠ 0
    · refine ite_t c1 ?_
      refine setDct (N'.get 0 rfl) (by omega) ?_
      intro h5 tk5 H5 k5
      have F5 := F'.upd (N'.ne 0 rfl) (N'.off 0 rfl) k5
      have N5 := N'.upd 0 rfl k5 H5
      refine wpAny_execs_nil ?_
      dsimp only
      rw [← show foldKey tx i = tx i by unfold foldKey; rw [if_pos c1]] at N5
      exact fin F5 N5
    · refine ite_f c1 ?_
      refine BoolOp_one ?_
      refine cst_str ?_; intro t' k'
      dsimp only
      refine setDct (N'.get 0 rfl) (by omega) ?_
      intro h5 tk5 H5 k5
      have F5 := F'.upd (N'.ne 0 rfl) (N'.off 0 rfl) k5
      have N5 := N'.upd 0 rfl k5 H5
      refine wpAny_execs_nil ?_
      dsimp only
      rw [← show foldKey tx i = Str.ofString "/" by unfold foldKey; rw [if_neg c1]] at N5
      exact fin F5 N5
  · rintro h2 tk2 g1 ps u2 led kg ⟨l', rfl, rfl, hl'⟩ hd F2 N2
    have hll : ll.length = 3 := by have := congrArg List.length hlk; simpa using this
    have hsd : (strDct ll).length = 3 := by unfold strDct; simpa using hll
    have hL2 := kg.has (hide_has hL)
    refine wpAny_execs_nil ?_
    refine wpAny_execs_cons ?_
    refine wpAny_For ?_ (by intro _; with_unfolding_all rfl)
    refine qlo ?_
    dsimp only
    refine for_keys R.hh hla hL2 (fun i _ ps led => ∃ l' : List (Str × Int × Tok), ps = [(Str.ofString "modes", .ref D), (Str.ofString "links", .ref la), (Str.ofString "rights", .ref ra), (Str.ofString "texts", .ref ta)] ∧ led = [(D, isDct prog w (intDct l'))] ∧ l'.map (fun p => (p.1, p.2.1)) = (List.range 5).map (fun k => (foldKey tx k, (16384 : Int) + (r k : Int))) ++ (List.range i).map (fun k => (lk k, (41471 : Int)))) F2 N2 ⟨l', rfl, rfl, by simpa using hl'⟩ ?_ ?_
    · rintro i k t h3 tk3 g3 gJ ps u3 led hi hk k3 kJ ⟨l2, rfl, rfl, hl2⟩ hd3 F3 N3
      have hi3 : i < 3 := by omega
      have hk' : k = lk i := by
        rw [strDct_keys, hlk, List.getElem?_map, List.getElem?_range hi3] at hk
        cases hk; rfl
      subst hk'
      have hlen2 : l2.length = 5 + i := by have := congrArg List.length hl2; simpa using this
      have hdl : (intDct l2).length = 5 + i := by rw [intDct_len]; exact hlen2
      have hnew : lk i ∉ (intDct l2).map (·.1) := by
        rw [intDct_keys, keys_of hl2, List.map_append, List.map_map, List.map_map]
        intro q
        rcases List.mem_append.mp q with q | q
        · obtain ⟨j, hj, e2⟩ := List.mem_map.mp q
          have hj := List.mem_range.mp hj
          have e3 : foldKey tx j = lk i := e2
          have := (List.getElem?_inj (i := j) (j := 5 + i) (by simp; omega) hnd).mp (by rw [List.getElem?_append_left (by simp; omega), List.getElem?_append_right (by simp), List.getElem?_map, List.getElem?_map, List.getElem?_range hj, List.getElem?_range (by simp; omega)]; simp [e3])
          omega
        · obtain ⟨j, hj, e2⟩ := List.mem_map.mp q
          have hj := List.mem_range.mp hj
          have e3 : lk j = lk i := e2
          have := (List.getElem?_inj (i := 5 + j) (j := 5 + i) (by simp; omega) hnd).mp (by rw [List.getElem?_append_right (by simp), List.getElem?_append_right (by simp), List.getElem?_map, List.getElem?_map, List.getElem?_range (by simp; omega), List.getElem?_range (by simp; omega)]; simp [e3])
          omega
      have O3 := O'.keeps (kg.trans (k3.trans kJ))
      refine wpAny_assign_Name ?_
      refine qst ?_; intro h' tk' F' N'
      refine wpAny_execs_cons ?_
      refine wpAny_Assign_Subscript ?_ (by with_unfolding_all rfl)
      refine cst_int ?_; intro t' k'
      refine qlo ?_
      refine qlo ?_
      dsimp only
      refine setDct (N'.get 0 rfl) (by omega) ?_
      intro h5 tk5 H5 k5
      have F5 := F'.upd (N'.ne 0 rfl) (N'.off 0 rfl) k5
      have N5 := N'.upd 0 rfl k5 H5
      refine wpAny_execs_nil ?_
      dsimp only
      rw [stored_new hnew, intDct_snoc] at N5
      obtain ⟨u6, F6⟩ := F5.sel [(Str.ofString "modes", .ref D), (Str.ofString "links", .ref la), (Str.ofString "rights", .ref ra), (Str.ofString "texts", .ref ta)] (by with_unfolding_all rfl)
      refine ⟨_, _, _, u6, [], [_], rfl, F6, N5, rfl, fun g2 _ _ => ⟨_, rfl, rfl, ?_⟩⟩
      rw [List.map_append, hl2, List.range_succ (n := i), List.map_append (l₁ := List.range i), List.append_assoc]; rfl
    · rintro h3 tk3 g3 ps u3 led k3 ⟨l2, rfl, rfl, hl2⟩ hd3 F3 N3
      rw [hsd] at hl2
      refine wpAny_execs_nil ?_
      refine wpAny_execs_cons ?_
      refine wpAny_Return_some ?_
      refine qlo ?_
      dsimp only
      exact h _ _ D l2 (keeps_of (F3.weak (kg.trans k3))).sub (N3.fresh (kg.trans k3) 0 rfl) (N3.get 0 rfl) hl2
end
end
/-! LawE -/
section
theorem bitAndN (a b : Nat) : Builtin.bitAnd (a : Int) (b : Int) = ((a &&& b : Nat) : Int) := by
  rw [bitAnd_pp (by omega) (by omega)]; simp
theorem bitOrN (a b : Nat) : Builtin.bitOr (a : Int) (b : Int) = ((a ||| b : Nat) : Int) := by
  have h1 : Builtin.bitNot (Builtin.bitNot (a : Int)) = (a : Int) := by unfold Builtin.bitNot; omega
  have h2 : Builtin.bitNot (Builtin.bitNot (b : Int)) = (b : Int) := by unfold Builtin.bitNot; omega
  unfold Builtin.bitOr
  rw [bitAnd_nn (by unfold Builtin.bitNot; omega) (by unfold Builtin.bitNot; omega), h1, h2]
  have h3 : ∀ n : Nat, Builtin.bitNot (Builtin.bitNot (n : Int)) = (n : Int) := fun n => by unfold Builtin.bitNot; omega
  rw [h3]; simp
section
variable {prog : Program} {w : World} {A : Around} {E : Value → Shared → Prop} {s : Shared} {Q : Value → Shared → Prop}
theorem orN {a b : Nat} {t u : Tok} (h : ∀ t' tk, Q (.int ((a ||| b : Nat) : Int) t') { s with toks := tk }) : wpAny (model prog w) A (binaryOp .BitOr (.int (a : Int) t) (.int (b : Int) u)) Q E s := orI fun t' tk => by rw [bitOrN]; exact h t' tk
end
def stepR (r : Nat → Nat) (hv : List Nat) (p : Nat × Nat) : List Nat := hv.set p.2 (hv[p.2]?.getD 0 ||| (hv[p.1]?.getD 0 &&& r p.2))
def roundR (r : Nat → Nat) (st : List (Nat × Nat)) (hv : List Nat) : List Nat := st.foldl (stepR r) hv
def reachN (r : Nat → Nat) (st : List (Nat × Nat)) : Nat → List Nat
  | 0 => [r 0, 0, 0, 0, 0]
  | n + 1 => roundR r st (reachN r st n)
theorem stepR_len (r : Nat → Nat) (hv : List Nat) (p : Nat × Nat) : (stepR r hv p).length = hv.length := List.length_set
theorem roundR_len (r : Nat → Nat) : ∀ (st : List (Nat × Nat)) (hv : List Nat), (roundR r st hv).length = hv.length
  | [], hv => rfl
  | p :: st, hv => by show (roundR r st (stepR r hv p)).length = _; rw [roundR_len r st, stepR_len]
theorem reachN_len (r : Nat → Nat) (st : List (Nat × Nat)) : ∀ n, (reachN r st n).length = 5
  | 0 => rfl
  | n + 1 => by rw [reachN, roundR_len, reachN_len r st n]
/-- a pair of small numbers in the heap -/
structure Stp where
  a : Addr
  x : Nat
  tx : Tok
  y : Nat
  ty : Tok
def natVals (l : List (Nat × Tok)) : List Value := l.map fun p => .int (p.1 : Int) p.2
theorem natVals_get {l : List (Nat × Tok)} {ns : List Nat} (h : l.map (·.1) = ns) {i n : Nat} (hi : ns[i]? = some n) : ∃ t, (natVals l)[i]? = some (.int (n : Int) t) := by
  subst h
  rw [List.getElem?_map] at hi
  cases e : l[i]? with
  | none => rw [e] at hi; cases hi
  | some p => rw [e] at hi; cases hi; exact ⟨p.2, by unfold natVals; rw [List.getElem?_map, e]; rfl⟩
theorem natVals_len {l : List (Nat × Tok)} : (natVals l).length = l.length := by unfold natVals; simp
theorem natVals_set {l : List (Nat × Tok)} {i n : Nat} {t : Tok} : (natVals l).set i (Value.int (n : Int) t) = natVals (l.set i (n, t)) := by unfold natVals; rw [List.map_set]
section
variable {prog : Program} {w : World} {A : Around} {E : Value → Shared → Prop} {s : Shared} {hT : Heap} {mg mb : Str → Option Value} {Q : Value → Shared → Prop}
theorem reached_spec {sa ra : Addr} {sl : List Stp} {lR : List (Nat × Tok)} {r : Nat → Nat} (O : Ok w mg mb hT) (kT : Sub hT s.heap) (R : Room A 1)
    (hS : s.heap.IsList sa (sl.map fun p => Value.ref p.a).toArray) (hP : ∀ p ∈ sl, Has s.heap p.a (isTup [.int (p.x : Int) p.tx, .int (p.y : Int) p.ty])) (hxy : ∀ p ∈ sl, p.x < 5 ∧ p.y < 5) (hR : s.heap.IsList ra (natVals lR).toArray) (hr : lR.map (·.1) = (List.range 5).map r) (hsl5 : sl.length ≤ 100)
    (h : ∀ h' tk' a l', Sub s.heap h' → s.heap.get? a = none → Has h' a (isLst (natVals l')) → l'.map (·.1) = reachN r (sl.map fun p => (p.x, p.y)) 5 → Q (.ref a) { s with heap := h', toks := tk' }) :
    wpAny (model prog w) A (call (.ref 263) [.ref sa, .ref ra]) Q E s := by
  have hsl : sizeLine = 16777216 := rfl
  have hlR : lR.length = 5 := by have := congrArg List.length hr; simpa using this
  have hget : ∀ j, j < 5 → ∃ t, (natVals lR)[j]? = some (.int (r j : Int) t) := fun j hj => natVals_get hr (by rw [List.getElem?_map, List.getElem?_range hj]; rfl)
  refine enter [(Str.ofString "rights", .ref ra), (Str.ofString "steps", .ref sa)].reverse [] [] O kT (by simp) rfl rfl R.depth (by simp) (by simp) rfl (locs rfl) ?_
  intro L h₁ tk O' F N
  rw [List.reverse_reverse] at F
  have hR1 := hide_lst hR
  obtain ⟨t0, ht0⟩ := hget 0 (by decide)
  refine wpAny_execs_cons ?_
  refine wpAny_Assign_Name ?_ (by with_unfolding_all rfl)
  refine List_ ?_
  refine args_cons ?_ (by with_unfolding_all rfl)
  refine Subscript_ ?_
  refine qlo ?_
  refine cst_int ?_; intro t' k'
  dsimp only
  refine item_lstN (k := 0) (F.lst hR1) (by rw [natVals_len]; omega) ht0 ?_
  refine args_cons ?_ (by with_unfolding_all rfl)
  refine cst_int ?_; intro t' k'
  refine args_cons ?_ (by with_unfolding_all rfl)
  refine cst_int ?_; intro t' k'
  refine args_cons ?_ (by with_unfolding_all rfl)
  refine cst_int ?_; intro t' k'
  refine args_cons ?_ (by with_unfolding_all rfl)
  refine cst_int ?_; intro t' k'
  refine args_nil ?_
  refine newLst (by assumption) (by assumption) (by with_unfolding_all exact Nat.le_of_ble_eq_true rfl) ?_; intro a' h' F' N'
  refine qst ?_; intro h' tk' F' N'
  obtain ⟨D, hD⟩ : ∃ x, x = a' := ⟨_, rfl⟩
  subst hD
  refine wpAny_execs_cons ?_
  refine wpAny_For ?_ (by intro _; with_unfolding_all rfl)
  refine Call_ ?_ (by with_unfolding_all rfl)
  refine qbl (gn_range _) boot_range ?_
  refine Pv.callWith_type1 ?_ (by with_unfolding_all rfl) (by with_unfolding_all rfl)
  refine args_cons ?_ (by with_unfolding_all rfl)
  refine cst_int ?_; intro t' k'
  refine args_nil ?_
  refine rangeC (by assumption) (by assumption) ?_; intro a' h' t1' t3' tk' F' N' H'
  dsimp only
  obtain ⟨u', F''⟩ := F'.sel [(Str.ofString "have", .ref D), (Str.ofString "rights", .ref ra), (Str.ofString "steps", .ref sa)] (by with_unfolding_all rfl)
  refine for_rng R.hh (n := 5) (by decide) H' (fun i _ ps led => ∃ l' : List (Nat × Tok), ps = [(Str.ofString "have", .ref D), (Str.ofString "rights", .ref ra), (Str.ofString "steps", .ref sa)] ∧ led = [(D, isLst (natVals l'))] ∧ l'.map (·.1) = reachN r (sl.map fun p => (p.x, p.y)) i) F'' N' ⟨[(r 0, _), (0, _), (0, _), (0, _), (0, _)], rfl, rfl, rfl⟩ ?_ ?_
  · rintro i t h2 tk2 g1 gI ps u2 led hi kg kI ⟨l', rfl, rfl, hl'⟩ hd F2 N2
    have O2 := O'.keeps (kg.trans kI)
    refine wpAny_assign_Name ?_
    refine qst ?_; intro h' tk' F' N'
    refine wpAny_execs_cons ?_
    refine wpAny_For ?_ (by intro _; with_unfolding_all rfl)
    refine qlo ?_
    dsimp only
    obtain ⟨u3, F3⟩ := F'.sel [(Str.ofString "have", .ref D), (Str.ofString "rights", .ref ra), (Str.ofString "steps", .ref sa)] (by with_unfolding_all rfl)
    refine for_list R.hh ((kg.trans kI).lst (hide_lst hS)) (fun j _ ps led => ∃ l2 : List (Nat × Tok), ps = [(Str.ofString "have", .ref D), (Str.ofString "rights", .ref ra), (Str.ofString "steps", .ref sa)] ∧ led = [(D, isLst (natVals l2))] ∧ l2.map (·.1) = ((sl.map fun p => (p.x, p.y)).take j).foldl (stepR r) (l'.map (·.1))) F3 N' ⟨l', rfl, rfl, rfl⟩ ?_ ?_
    · rintro j v h4 tk4 g4 gJ ps u4 led hj hv k4 kJ ⟨l2, rfl, rfl, hl2⟩ hd4 F4 N4
      obtain ⟨p, hp⟩ : ∃ p, sl[j]? = some p := by rw [List.length_map] at hj; exact ⟨_, List.getElem?_eq_getElem hj⟩
      have hv' : v = .ref p.a := by rw [List.getElem?_map, hp] at hv; cases hv; rfl
      subst hv'
      have hpm := List.mem_of_getElem? hp
      have kk := (kg.trans kI).trans (k4.trans kJ)
      have O4 := O'.keeps kk
      obtain ⟨hx5, hy5⟩ := hxy p hpm
      have hlen : l2.length = 5 := by
        have := congrArg List.length hl2
        rw [hl', List.length_map] at this
        rw [this]
        have := roundR_len r ((sl.map fun p => (p.x, p.y)).take j) (reachN r (sl.map fun p => (p.x, p.y)) i)
        rw [reachN_len] at this
        exact this
      have hgl : ∀ j, j < 5 → ∃ (n : Nat) (t : Tok), (natVals l2)[j]? = some (.int (n : Int) t) ∧ (l2.map (·.1))[j]? = some n := fun j hj => by
        have : (l2.map (·.1))[j]? = some ((l2.map (·.1))[j]'(by simpa [hlen] using hj)) := List.getElem?_eq_getElem _
        obtain ⟨t, ht⟩ := natVals_get rfl this
        exact ⟨_, t, ht, this⟩
      obtain ⟨nx, tnx, hnx, hnx'⟩ := hgl _ hx5
      obtain ⟨ny, tny, hny, hny'⟩ := hgl _ hy5
      obtain ⟨tr, htr⟩ := hget _ hy5
      have hT := F4.keep.has (kk.has (hide_has (hP p hpm)))
      refine asg2 (by assumption) (by assumption) R.hh ⟨_, hT.tup, rfl, 0, rfl⟩ ?_ (by with_unfolding_all rfl) (by with_unfolding_all rfl)
      intro h' F' N'
      refine wpAny_assign_Name ?_
      refine qst ?_; intro h' tk' F' N'
      refine wpAny_assign_Name ?_
      refine qst ?_; intro h' tk' F' N'
      refine wpAny_execs_cons ?_
      refine wpAny_Assign_Subscript ?_ (by with_unfolding_all rfl)
      refine wpAny_BinOp ?_
      refine Subscript_ ?_
      refine qlo ?_
      refine qlo ?_
      dsimp only
      refine item_lstN (N'.get 0 rfl).list (by rw [natVals_len]; omega) hny ?_
      refine wpAny_BinOp ?_
      refine Subscript_ ?_
      refine qlo ?_
      refine qlo ?_
      refine item_lstN (N'.get 0 rfl).list (by rw [natVals_len]; omega) hnx ?_
      refine Subscript_ ?_
      refine qlo ?_
      refine qlo ?_
      refine item_lstN (F'.lst (kk.lst hR1)) (by rw [natVals_len]; omega) htr ?_
      refine andI ?_; intro t' k'
      rw [bitAndN]
      refine orN ?_; intro t9 tk9
      refine qlo ?_
      refine qlo ?_
      dsimp only
      refine setItem_lstN (N'.get 0 rfl) (by rw [natVals_len]; omega) (by rw [natVals_len]; omega) ?_
      intro h5 H5 k5
      have F5 := F'.upd (N'.ne 0 rfl) (N'.off 0 rfl) k5
      have N5 := N'.upd 0 rfl k5 H5
      rw [natVals_set] at N5
      refine wpAny_execs_nil ?_
      dsimp only
      obtain ⟨u6, F6⟩ := F5.sel [(Str.ofString "have", .ref D), (Str.ofString "rights", .ref ra), (Str.ofString "steps", .ref sa)] (by with_unfolding_all rfl)
      refine ⟨_, _, _, u6, [], [_], rfl, F6, N5, rfl, fun g2 _ _ => ⟨_, rfl, rfl, ?_⟩⟩
      rw [List.take_add_one, List.getElem?_map, hp, List.foldl_append, ← hl2, List.map_set]
      show _ = stepR r (l2.map (·.1)) (p.x, p.y)
      unfold stepR
      rw [hnx', hny']; rfl
    · rintro h4 tk4 g4 ps u4 led k4 ⟨l2, rfl, rfl, hl2⟩ hd4 F4 N4
      rw [List.length_map, List.take_of_length_le (by simp)] at hl2
      refine wpAny_execs_nil ?_
      refine wpAny_execs_nil ?_
      dsimp only
      exact ⟨_, _, _, u4, [], _, rfl, F4.weak k4, N4.weak k4, rfl, fun g2 _ _ => ⟨l2, rfl, rfl, by rw [hl2, hl']; rfl⟩⟩
  · rintro h2 tk2 g1 ps u2 led kg ⟨l', rfl, rfl, hl'⟩ hd F2 N2
    refine wpAny_execs_nil ?_
    refine wpAny_execs_cons ?_
    refine wpAny_Return_some ?_
    refine qlo ?_
    dsimp only
    exact h _ _ D l' (keeps_of (F2.weak kg)).sub (N2.fresh kg 0 rfl) (N2.get 0 rfl) hl'
end
end
/-! LawF -/
section
def signR (g e : Nat) (c : Str) : Str := if (((g / 2 ^ e % 2 : Nat) : Int) == 1) = true then c else Str.ofString "-"
def signTab (i : Nat) : Str := ([Str.ofString "-xSs", Str.ofString "-xSs", Str.ofString "-xTt"][i]?).getD (Str.ofString "-xTt")
def signX (g i : Nat) : Str := ⟨#[((signTab i).cps[g / 2 ^ (6 - 3 * i) % 2 + 2 * (g / 2 ^ (11 - i) % 2)]?).getD 0]⟩
def signN (g : Nat) : Nat → Str
  | 0 => Str.ofString "d"
  | i + 1 => ((signN g i ++ signR g (8 - 3 * i) (Str.ofString "r")) ++ signR g (7 - 3 * i) (Str.ofString "w")) ++ signX g i
theorem signR_len (g e : Nat) (c : Str) (hc : c.length = 1) : (signR g e c).length = 1 := by
  unfold signR; split
  · exact hc
  · decide
theorem signN_len (g : Nat) : ∀ i, (signN g i).length = 1 + 3 * i
  | 0 => by show (Str.ofString "d").length = 1; decide
  | i + 1 => by
    rw [signN, Str.length_append, Str.length_append, Str.length_append, signN_len g i, signR_len _ _ _ (by decide), signR_len _ _ _ (by decide)]
    have : (signX g i).length = 1 := rfl
    omega
section
variable {prog : Program} {w : World} {A : Around} {E : Value → Shared → Prop} {s : Shared} {hT : Heap} {mg mb : Str → Option Value} {Q : Value → Shared → Prop}
theorem ite_const {env : Env} {c : Bool} {x y : Str} {k1 k2 : Nat} {p1 p2 : Pos} (h : ∀ t' tk, Q (.str (if c = true then x else y) t') { s with toks := tk }) :
    if c = true then wpAny (model prog w) A (eval (.Constant (.str x) k1 p1) env) Q E s else wpAny (model prog w) A (eval (.Constant (.str y) k2 p2) env) Q E s := by
  cases c with
  | true => rw [if_pos rfl]; refine cst_str fun t' tk => ?_; have := h t' tk; rwa [if_pos rfl] at this
  | false => rw [if_neg Bool.false_ne_true]; refine cst_str fun t' tk => ?_; have := h t' tk; rwa [if_neg Bool.false_ne_true] at this
theorem pow_small (e : Nat) (h : e ≤ 11) : 2 ^ e < 2 ^ 30 := Nat.pow_lt_pow_right (by decide) (by omega)
theorem sign_get (i : Nat) (hi : i < 3) (t1 t2 t3 : Tok) : ∃ t, [Value.str (Str.ofString "-xSs") t1, .str (Str.ofString "-xSs") t2, .str (Str.ofString "-xTt") t3][i]? = some (.str (signTab i) t) := by
  have e : i = 0 ∨ i = 1 ∨ i = 2 := by omega
  rcases e with rfl | rfl | rfl <;> exact ⟨_, rfl⟩
theorem mul2_ok (n : Nat) : IntMulOk 2 ((n % 2 : Nat) : Int) := by
  rcases Nat.mod_two_eq_zero_or_one n with e | e <;> rw [e] <;> mul_fits
theorem signTab_size (i : Nat) (hi : i < 3) : (signTab i).cps.size = 4 := by
  have e : i = 0 ∨ i = 1 ∨ i = 2 := by omega
  rcases e with rfl | rfl | rfl <;> decide
theorem signs_spec {g : Nat} {t : Tok} (O : Ok w mg mb hT) (kT : Sub hT s.heap) (R : Room A 1)
    (h : ∀ h' tk' t', Sub s.heap h' → Q (.str (signN g 3) t') { s with heap := h', toks := tk' }) :
    wpAny (model prog w) A (call (.ref 270) [.int (g : Int) t]) Q E s := by
  have hsl : sizeLine = 16777216 := rfl
  refine enter [(Str.ofString "rights", .int (g : Int) t)].reverse [] [] O kT (by simp) rfl rfl R.depth (by simp) (by simp) rfl (locs rfl) ?_
  intro L h₁ tk O' F N
  rw [List.reverse_reverse] at F
  refine wpAny_execs_cons ?_
  refine wpAny_Assign_Name ?_ (by with_unfolding_all rfl)
  refine cst_str ?_; intro t' k'
  refine qst ?_; intro h' tk' F' N'
  refine wpAny_execs_cons ?_
  refine wpAny_For ?_ (by intro _; with_unfolding_all rfl)
  refine Call_ ?_ (by with_unfolding_all rfl)
  refine qbl (gn_range _) boot_range ?_
  refine Pv.callWith_type1 ?_ (by with_unfolding_all rfl) (by with_unfolding_all rfl)
  refine args_cons ?_ (by with_unfolding_all rfl)
  refine cst_int ?_; intro t' k'
  refine args_nil ?_
  refine rangeC (by assumption) (by assumption) ?_; intro a' h' t1' t3' tk' F' N' H'
  dsimp only
  obtain ⟨u', F''⟩ := F'.sel [(Str.ofString "signs", .str (Str.ofString "d") _), (Str.ofString "rights", .int (g : Int) t)] (by with_unfolding_all rfl)
  refine for_rng R.hh (n := 3) (by decide) H' (fun i _ ps led => led = [] ∧ ∃ t1, ps = [(Str.ofString "signs", .str (signN g i) t1), (Str.ofString "rights", .int (g : Int) t)]) F'' N' ⟨rfl, _, rfl⟩ ?_ ?_
  · rintro i t2 h2 tk2 g1 gI ps u2 led hi kg kI ⟨rfl, t1, rfl⟩ hd F2 N2
    have O2 := O'.keeps (kg.trans kI)
    have e8 : (8 : Int) - 3 * (i : Int) = ((8 - 3 * i : Nat) : Int) := by omega
    have e7 : (7 : Int) - 3 * (i : Int) = ((7 - 3 * i : Nat) : Int) := by omega
    have e6 : (6 : Int) - 3 * (i : Int) = ((6 - 3 * i : Nat) : Int) := by omega
    have e11 : (11 : Int) - (i : Int) = ((11 - i : Nat) : Int) := by omega
    have hz := signN_len g i
    have hz1 := signR_len g (8 - 3 * i) (Str.ofString "r") (by decide)
    have hz2 := signR_len g (7 - 3 * i) (Str.ofString "w") (by decide)
    have hz3 : (signX g i).length = 1 := rfl
    refine wpAny_assign_Name ?_
    refine qst ?_; intro h' tk' F' N'
    refine wpAny_execs_cons ?_
    refine wpAny_Assign_Name ?_ (by with_unfolding_all rfl)
    refine wpAny_BinOp ?_
    refine qlo ?_
    refine wpAny_IfExp ?_
    refine wpAny_isTrue_Compare1 ?_ (by with_unfolding_all rfl)
    refine wpAny_BinOp ?_
    refine wpAny_BinOp ?_
    refine qlo ?_
    refine wpAny_BinOp ?_
    refine cst_int ?_; intro t' k'
    refine wpAny_BinOp ?_
    refine cst_int ?_; intro t' k'
    refine wpAny_BinOp ?_
    refine cst_int ?_; intro t' k'
    refine qlo ?_
    dsimp only
    refine mulI (by mul_fits) ?_; intro t5 tk5
    refine subI ?_; intro t' k'
    rw [e8]
    refine pow2 (by omega) ?_; intro t6 tk6
    dsimp only
    refine divN (Nat.two_pow_pos _) (pow_small _ (by omega)) ?_; intro t7 tk7
    refine cst_int ?_; intro t' k'
    dsimp only
    refine modN (by decide) ?_; intro t8 tk8
    refine cst_int ?_; intro t' k'
    refine P.eq_int ?_
    refine wpAny_truthy_bool ?_
    dsimp only
    refine ite_const ?_; intro t9 tk9
    rw [show (if (((g / 2 ^ (8 - 3 * i) % 2 : Nat) : Int) == 1) = true then Str.ofString "r" else Str.ofString "-") = signR g (8 - 3 * i) (Str.ofString "r") from rfl]
    refine add_txt (by walk_at "size") ?_; intro t' k'
    refine qst ?_; intro h' tk' F' N'
    refine wpAny_execs_cons ?_
    refine wpAny_Assign_Name ?_ (by with_unfolding_all rfl)
    refine wpAny_BinOp ?_
    refine qlo ?_
    refine wpAny_IfExp ?_
    refine wpAny_isTrue_Compare1 ?_ (by with_unfolding_all rfl)
    refine wpAny_BinOp ?_
    refine wpAny_BinOp ?_
    refine qlo ?_
    refine wpAny_BinOp ?_
    refine cst_int ?_; intro t' k'
    refine wpAny_BinOp ?_
    refine cst_int ?_; intro t' k'
    refine wpAny_BinOp ?_
    refine cst_int ?_; intro t' k'
    refine qlo ?_
    dsimp only
    refine mulI (by mul_fits) ?_; intro t5 tk5
    refine subI ?_; intro t' k'
    rw [e7]
    refine pow2 (by omega) ?_; intro t6 tk6
    dsimp only
    refine divN (Nat.two_pow_pos _) (pow_small _ (by omega)) ?_; intro t7 tk7
    refine cst_int ?_; intro t' k'
    dsimp only
    refine modN (by decide) ?_; intro t8 tk8
    refine cst_int ?_; intro t' k'
    refine P.eq_int ?_
    refine wpAny_truthy_bool ?_
    dsimp only
    refine ite_const ?_; intro t9 tk9
    rw [show (if (((g / 2 ^ (7 - 3 * i) % 2 : Nat) : Int) == 1) = true then Str.ofString "w" else Str.ofString "-") = signR g (7 - 3 * i) (Str.ofString "w") from rfl]
    refine add_txt (by walk_at "size") ?_; intro t' k'
    refine qst ?_; intro h' tk' F' N'
    refine wpAny_execs_cons ?_
    refine wpAny_Assign_Name ?_ (by with_unfolding_all rfl)
    refine wpAny_BinOp ?_
    refine qlo ?_
    refine Subscript_ ?_
    refine Subscript_ ?_
    refine Tuple_ ?_
    refine args_cons ?_ (by with_unfolding_all rfl)
    refine cst_str ?_; intro t' k'
    refine args_cons ?_ (by with_unfolding_all rfl)
    refine cst_str ?_; intro t' k'
    refine args_cons ?_ (by with_unfolding_all rfl)
    refine cst_str ?_; intro t' k'
    refine args_nil ?_
    refine newTup (by assumption) (by assumption) (by with_unfolding_all exact Nat.le_of_ble_eq_true rfl) ?_; intro a' h' F' N'
    refine qlo ?_
    dsimp only
    obtain ⟨tt, htt⟩ := sign_get i hi _ _ _
    refine item_tupN (N'.get 0 rfl) htt (by omega) ?_
    refine wpAny_BinOp ?_
    refine wpAny_BinOp ?_
    refine wpAny_BinOp ?_
    refine qlo ?_
    refine wpAny_BinOp ?_
    refine cst_int ?_; intro t' k'
    refine wpAny_BinOp ?_
    refine cst_int ?_; intro t' k'
    refine wpAny_BinOp ?_
    refine cst_int ?_; intro t' k'
    refine qlo ?_
    dsimp only
    refine mulI (by mul_fits) ?_; intro t5 tk5
    refine subI ?_; intro t' k'
    rw [e6]
    refine pow2 (by omega) ?_; intro t6 tk6
    dsimp only
    refine divN (Nat.two_pow_pos _) (pow_small _ (by omega)) ?_; intro t7 tk7
    refine cst_int ?_; intro t' k'
    dsimp only
    refine modN (by decide) ?_; intro t8 tk8
    refine wpAny_BinOp ?_
    refine cst_int ?_; intro t' k'
    refine wpAny_BinOp ?_
    refine wpAny_BinOp ?_
    refine qlo ?_
    refine wpAny_BinOp ?_
    refine cst_int ?_; intro t' k'
    refine wpAny_BinOp ?_
    refine cst_int ?_; intro t' k'
    refine qlo ?_
    refine subI ?_; intro t' k'
    dsimp only
    rw [e11]
    refine pow2 (by omega) ?_; intro t6 tk6
    dsimp only
    refine divN (Nat.two_pow_pos _) (pow_small _ (by omega)) ?_; intro t7 tk7
    refine cst_int ?_; intro t' k'
    dsimp only
    refine modN (by decide) ?_; intro t10 tk10
    refine mulI (mul2_ok _) ?_; intro t11 tk11
    refine addI ?_; intro t' k'
    rw [show ((g / 2 ^ (6 - 3 * i) % 2 : Nat) : Int) + 2 * ((g / 2 ^ (11 - i) % 2 : Nat) : Int) = ((g / 2 ^ (6 - 3 * i) % 2 + 2 * (g / 2 ^ (11 - i) % 2) : Nat) : Int) from by push_cast; rfl]
    have hk4 : g / 2 ^ (6 - 3 * i) % 2 + 2 * (g / 2 ^ (11 - i) % 2) < 4 := by
      have h1 := Nat.mod_lt (g / 2 ^ (6 - 3 * i)) (show 2 > 0 by decide)
      have h2 := Nat.mod_lt (g / 2 ^ (11 - i)) (show 2 > 0 by decide)
      omega
    obtain ⟨c, hc⟩ : ∃ c, (signTab i).cps[g / 2 ^ (6 - 3 * i) % 2 + 2 * (g / 2 ^ (11 - i) % 2)]? = some c := ⟨_, Array.getElem?_eq_getElem (by rw [signTab_size i hi]; exact hk4)⟩
    refine itemS hc (Nat.lt_trans hk4 (by decide)) ?_
    intro t12 tk12
    rw [show (⟨#[c]⟩ : Str) = signX g i by unfold signX; rw [hc]; rfl]
    refine add_txt (by walk_at "size") ?_; intro t' k'
    refine qst ?_; intro h' tk' F' N'
    refine wpAny_execs_nil ?_
    dsimp only
    obtain ⟨u6, F6⟩ := F'.sel [(Str.ofString "signs", .str (signN g (i + 1)) _), (Str.ofString "rights", .int (g : Int) t)] (by with_unfolding_all rfl)
    exact ⟨_, _, _, u6, [], [], rfl, F6, Led.nil, rfl, fun g2 _ _ => ⟨rfl, _, rfl⟩⟩
  · rintro h2 tk2 g1 ps u2 led kg ⟨rfl, t1, rfl⟩ hd F2 N2
    refine wpAny_execs_nil ?_
    refine wpAny_execs_cons ?_
    refine wpAny_Return_some ?_
    refine qlo ?_
    dsimp only
    exact h _ _ _ (keeps_of (F2.weak kg)).sub
end
end
/-! EnterC -/
section
/-- the call of a def of the text that has cells -/
theorem enterC {prog : Program} {w : World} {A : Around} {E : Value → Shared → Prop} {s : Shared} {hT : Heap} {mg mb : Str → Option Value} {fa : Addr} {fname qual : Str} {params : Arguments} {body : List Stmt} {scope : Scope} {dV kV doc pm cdv ct oc : Value} {an od : Option Addr} {osl : Array (Option Value)}
    {args : List Value} {Q : Value → Shared → Prop} (binds : List (Str × Value)) (O : Ok w mg mb hT) (kT : Sub hT s.heap)
    (ho : (KK w).lookup fa = some ⟨oc, od, .func (fnOf fname qual params body scope dV kV doc pm an cdv ct), osl⟩) (hcd : codeIn (KK w) cdv qual = true) (hroom : A.depth < recursionLimit)
    (hbind : bindArgs (fnOf fname qual params body scope dV kV doc pm an cdv ct) ⟨args, []⟩ = pure binds)
    (hkind : ∀ n, ∀ x ∈ binds, scope.names.lookup x.1 = some .local ∨ (scope.names.lookup x.1 = some .cell ∧ ((cellsFrom n scope.names []).lookup x.1).isSome = true))
    (hnd : ((cellsFrom 0 scope.names []).map (·.1)).Nodup)
    (h : ∀ L h₁ tk, Ok w mg mb (hideAll s.heap []) → Fm (hideAll s.heap []) L h₁ (bindL (envOfC qual scope L fa cdv).kindOf binds fun _ => none) →
      Led (hideAll s.heap []) L h₁ ((cellsFrom (L + 1) scope.names []).map fun p => (p.2, isCell (bindC (envOfC qual scope L fa cdv).kindOf binds (fun _ => none) p.1))) →
      wpAny (model prog w) (A.deeper (envOfC qual scope L fa cdv)) (execs body (envOfC qual scope L fa cdv)) (fun fl s' => Q (match fl with | .ret v => v | _ => .none) s') (fun _ _ => False) { s with heap := h₁, toks := tk })
    (hco : scope.isCoroutine = false := by rfl) (hgen : scope.isGenerator = false := by rfl) (hk : scope.kind = .function := by rfl) :
    wpAny (model prog w) A (call (.ref fa) args) Q E s := by
  have OS := O.keeps kT
  refine wpAny_call ?_
  refine codeAny_call_function (fd := fnOf fname qual params body scope dV kV doc pm an cdv ct) hroom (OS.X _ _ ho) rfl hco hgen rfl (codeRec_of OS.X hcd) ?_
  rw [hbind]
  refine wpAny_pure ?_
  refine wpAny_newFunctionEnv_cells hk (hkind _) fun env' he s' x => ?_
  subst he
  refine ⟨OS.nolimit.keeps x.toInCall.keep, codeAny_func ?_⟩
  obtain ⟨h₁, tk, rfl, hk₁⟩ := x.toInCall.done
  refine wpAny_mono (h s.heap.objs.size h₁ tk (OS.keeps (sub_hide (Sub.refl _) (fun _ q => nomatch q))) ⟨x.toInCall.ns, fun b o e => hk₁ b o (of_hideAll _ e), get_none hide_sub⟩ ⟨fun p hp => ?_, ?_⟩) (fun fl s' q => q) fun _ _ x => x.elim
  · obtain ⟨q, hq, rfl⟩ := List.mem_map.mp hp
    have hab := x.above q.1 q.2 hq
    refine ⟨Nat.ne_of_gt hab, ?_, x.cell q.1 q.2 (lookup_of_mem_nodup (cellsFrom_names scope.names 0 (s.heap.objs.size + 1) [] [] rfl ▸ hnd) hq)⟩
    cases e : (hideAll s.heap []).get? q.2 with
    | none => rfl
    | some o => exact absurd (Heap.lt_size (of_hideAll _ e)) (Nat.not_lt.mpr (Nat.le_of_lt hab))
  · rw [List.map_map]
    have := x.apart
    rw [List.nodup_iff_pairwise_ne, List.pairwise_map]
    exact this
def FCells : Prop := True
theorem fcells : FCells := trivial
theorem valueAt_none {kvs : List (Str × Value)} {k : Str} (h : k ∉ kvs.map (·.1)) : valueAt kvs k = none := by
  unfold valueAt
  have : kvs.find? (fun kv => decide (kv.1 = k)) = none := by
    rw [List.find?_eq_none]
    intro p hp q
    exact h (by rw [← of_decide_eq_true q]; exact List.mem_map_of_mem hp)
  rw [this]; rfl
theorem test_one {prog : Program} {w : World} {A : Around} {E : Value → Shared → Prop} {s : Shared} {env : Env} {c : Expr} {Q : Bool → Shared → Prop} (h : wpAny (model prog w) A (isTrue c env (eval c env)) Q E s) :
    wpAny (model prog w) A (forIn [c] true fun c r => if r = true then do let ok ← isTrue c env (eval c env); pure (ForInStep.yield ok) else pure (ForInStep.yield r)) Q E s := by
  rw [List.forIn_cons]
  refine wpAny_bind ?_
  rw [if_pos rfl]
  refine wpAny_bind (wpAny_mono h (fun b s₁ h₁ => wpAny_pure ?_) fun _ _ x => x)
  dsimp only
  rw [List.forIn_nil]
  exact wpAny_pure h₁
end
/-! HeapL -/
section
/-- the heap's order, by the ints alone -/
def kx (ys : List Itm) (i : Nat) : Int := (ys[i]?.map (·.k)).getD 0
theorem kx_set (ys : List Itm) (i j : Nat) (x : Itm) : kx (ys.set i x) j = if i = j ∧ i < ys.length then x.k else kx ys j := by
  unfold kx
  rw [List.getElem?_set]
  by_cases h : i = j
  · subst h
    by_cases h2 : i < ys.length
    · simp [h2]
    · simp [h2]
  · simp [h]
theorem kx_get {ys : List Itm} {i : Nat} {x : Itm} (h : ys[i]? = some x) : kx ys i = x.k := by unfold kx; rw [h]; rfl
def IsHp (xs : List Itm) : Prop := ∀ i, 0 < i → i < xs.length → kx xs ((i - 1) / 2) ≤ kx xs i
/-- in order but for the place pos, which may be less than what lies above it -/
def HpD (ys : List Itm) (pos : Nat) : Prop := (∀ i, 0 < i → i < ys.length → i ≠ pos → kx ys ((i - 1) / 2) ≤ kx ys i) ∧ (∀ i, 0 < i → i < ys.length → (i - 1) / 2 = pos → 0 < pos → kx ys ((pos - 1) / 2) ≤ kx ys i)
theorem up_lt {p : Nat} (h : p ≠ 0) : (p - 1) / 2 < p := by omega
theorem siftDown_hp (new : Itm) : ∀ (pos : Nat) (xs : List Itm), pos < xs.length → HpD (xs.set pos new) pos → IsHp (siftDown new xs pos) := by
  intro pos
  induction pos using Nat.strongRecOn with
  | ind pos ih =>
    intro xs hlt hH
    rw [siftDown]
    by_cases h0 : pos = 0
    · subst h0
      rw [if_pos rfl]
      intro i h1 h2
      exact hH.1 i h1 h2 (by omega)
    · rw [if_neg h0]
      have hup := up_lt h0
      have hq : (pos - 1) / 2 < xs.length := Nat.lt_trans hup hlt
      obtain ⟨par, hpar⟩ : ∃ par, xs[(pos - 1) / 2]? = some par := ⟨_, List.getElem?_eq_getElem hq⟩
      rw [hpar]
      dsimp only
      have hkp := kx_get hpar
      by_cases hl : new.lt par = true
      · rw [if_pos hl]
        have hle := Itm.lt_true hl
        refine ih _ hup _ (by simpa using hq) ⟨fun i h1 h2 h3 => ?_, fun i h1 h2 h3 h4 => ?_⟩
        · simp only [List.length_set] at h2
          have e1 := hH.1 i h1 (by simpa using h2)
          have e2 := hH.2 i h1 (by simpa using h2)
          simp only [kx_set, List.length_set] at e1 e2 ⊢
          by_cases hip : i = pos
          · subst hip
            simp [hq, h3, Ne.symm h3, hlt]; exact hle
          · have e1 := e1 hip
            by_cases hpp : (i - 1) / 2 = pos
            · have e2 := e2 hpp (by omega)
              simp only [hpp] at e1 e2 ⊢
              have a1 : ¬ ((pos - 1) / 2 = pos) := Nat.ne_of_lt hup
              have a2 : ¬ (pos = (pos - 1) / 2) := Nat.ne_of_gt hup
              have a3 : ¬ (pos = i) := fun e => hip e.symm
              have a4 : ¬ ((pos - 1) / 2 = i) := fun e => h3 e.symm
              simp [a1, a2, a3, a4, hlt] at e1 e2 ⊢
              rw [hkp] at e2; exact e2
            · have a3 : ¬ (pos = i) := fun e => hip e.symm
              have a4 : ¬ ((pos - 1) / 2 = i) := fun e => h3 e.symm
              have a5 : ¬ (pos = (i - 1) / 2) := fun e => hpp e.symm
              by_cases hqq : (pos - 1) / 2 = (i - 1) / 2
              · simp [a3, a4, a5, hqq, hlt] at e1 ⊢
                rw [← hqq, hkp] at e1
                rw [if_pos (by rw [← hqq]; exact hq), if_neg (fun e => a4 (hqq.trans e.1))]
                exact Int.le_trans hle e1
              · simp [a3, a4, a5, hqq] at e1 ⊢
                exact e1
        · simp only [List.length_set] at h2
          have e1 := hH.1 i h1 (by simpa using h2)
          have e3 := hH.1 ((pos - 1) / 2) h4 (by simpa using hq) (Nat.ne_of_lt hup)
          simp only [kx_set, List.length_set] at e1 e3 ⊢
          have hup2 := up_lt (Nat.ne_of_gt h4)
          have b1 : ¬ (pos = ((pos - 1) / 2 - 1) / 2) := Nat.ne_of_gt (Nat.lt_trans hup2 hup)
          have b2 : ¬ ((pos - 1) / 2 = ((pos - 1) / 2 - 1) / 2) := Nat.ne_of_gt hup2
          have b3 : ¬ (pos = (pos - 1) / 2) := Nat.ne_of_gt hup
          have b4 : ¬ ((pos - 1) / 2 = i) := fun e => Nat.ne_of_lt (up_lt (Nat.ne_of_gt h1)) (h3.trans e)
          simp [b1, b2, b3] at e3
          rw [hkp] at e3
          by_cases hip : i = pos
          · subst hip
            simp [b1, b2, b4, hlt]; exact e3
          · have e1 := e1 hip
            have a3 : ¬ (pos = i) := fun e => hip e.symm
            rw [h3] at e1
            simp [b1, b2, b3, b4, a3] at e1 ⊢
            rw [hkp] at e1
            exact Int.le_trans e3 e1
      · rw [if_neg hl]
        have hle := Itm.lt_false (by simpa using hl)
        intro i h1 h2
        by_cases hip : i = pos
        · subst hip
          simp only [kx_set]
          have b3 : ¬ (i = (i - 1) / 2) := Nat.ne_of_gt (up_lt (Nat.ne_of_gt h1))
          simp [b3, hlt]
          rw [hkp]; exact hle
        · exact hH.1 i h1 h2 hip
theorem set_swap_perm {ys : List Itm} {i j : Nat} {a b : Itm} (hi : ys[i]? = some a) (hj : ys[j]? = some b) : ((ys.set i b).set j a).Perm ys := by
  obtain ⟨h1, e1⟩ := List.getElem?_eq_some_iff.mp hi
  obtain ⟨h2, e2⟩ := List.getElem?_eq_some_iff.mp hj
  have := List.set_set_perm h1 h2
  rw [e1, e2] at this
  exact this
theorem siftDown_perm (new : Itm) : ∀ (pos : Nat) (xs : List Itm), pos < xs.length → (siftDown new xs pos).Perm (xs.set pos new) := by
  intro pos
  induction pos using Nat.strongRecOn with
  | ind pos ih =>
    intro xs hlt
    rw [siftDown]
    by_cases h0 : pos = 0
    · subst h0; rw [if_pos rfl]
    · rw [if_neg h0]
      have hq : (pos - 1) / 2 < xs.length := by omega
      obtain ⟨par, hpar⟩ : ∃ par, xs[(pos - 1) / 2]? = some par := ⟨_, List.getElem?_eq_getElem hq⟩
      rw [hpar]
      dsimp only
      by_cases hl : new.lt par = true
      · rw [if_pos hl]
        refine (ih _ (by omega) _ (by simpa using hq)).trans ?_
        have hne : ¬ (pos = (pos - 1) / 2) := by omega
        have := set_swap_perm (ys := xs.set pos new) (i := pos) (j := (pos - 1) / 2) (a := new) (b := par) (by rw [List.getElem?_set]; simp [hlt]) (by rw [List.getElem?_set, if_neg hne]; exact hpar)
        rwa [List.set_set] at this
      · rw [if_neg hl]
/-- in order but for the hole pos -/
def HpU (xs : List Itm) (pos : Nat) : Prop := (∀ i, 0 < i → i < xs.length → i ≠ pos → (i - 1) / 2 ≠ pos → kx xs ((i - 1) / 2) ≤ kx xs i) ∧ (∀ i, 0 < i → i < xs.length → (i - 1) / 2 = pos → 0 < pos → kx xs ((pos - 1) / 2) ≤ kx xs i)
theorem upChild_small {xs : List Itm} {p : Nat} (h : 2 * p + 1 < xs.length) : ∀ i, 0 < i → i < xs.length → (i - 1) / 2 = p → kx xs (upChild xs p) ≤ kx xs i := by
  intro i h1 h2 h3
  have hi : i = 2 * p + 1 ∨ i = 2 * p + 2 := by omega
  obtain ⟨a, ha⟩ : ∃ a, xs[2 * p + 1]? = some a := ⟨_, List.getElem?_eq_getElem h⟩
  unfold upChild
  rw [ha]
  by_cases hb : 2 * p + 2 < xs.length
  · obtain ⟨b, hb⟩ : ∃ b, xs[2 * p + 2]? = some b := ⟨_, List.getElem?_eq_getElem hb⟩
    rw [hb]
    dsimp only
    have ka := kx_get ha
    have kb := kx_get hb
    by_cases hl : a.lt b = true
    · have := Itm.lt_true hl
      rw [if_pos hl]
      rcases hi with rfl | rfl <;> omega
    · have := Itm.lt_false (by simpa using hl)
      rw [if_neg hl]
      rcases hi with rfl | rfl <;> omega
  · rw [List.getElem?_eq_none (by omega)]
    dsimp only
    rcases hi with rfl | rfl
    · exact Int.le_refl _
    · omega
theorem siftUp_both (new : Itm) : ∀ (n pos : Nat) (xs : List Itm), xs.length - pos = n → pos < xs.length → HpU xs pos → IsHp (siftUp new xs pos) ∧ (siftUp new xs pos).Perm (xs.set pos new) := by
  intro n
  induction n using Nat.strongRecOn with
  | ind n ih =>
    intro pos xs hn hlt hU
    rw [siftUp]
    by_cases hc : 2 * pos + 1 < xs.length
    · rw [dif_pos hc]
      have hcl := upChild_lt hc
      have hcp := upChild_le xs pos
      have hcs := upChild_small hc
      obtain ⟨c, hcc⟩ : ∃ c, xs[upChild xs pos]? = some c := ⟨_, List.getElem?_eq_getElem hcl⟩
      have hpar : (upChild xs pos - 1) / 2 = pos := by
        unfold upChild
        split <;> (try split) <;> omega
      generalize hj : upChild xs pos = j at hcl hcp hcs hcc hpar ⊢
      rw [hcc]
      dsimp only
      have hkc := kx_get hcc
      have hjp : ¬ (pos = j) := by omega
      have main : HpU (xs.set pos c) j → IsHp (siftUp new (xs.set pos c) j) ∧ (siftUp new (xs.set pos c) j).Perm (xs.set pos new) := by
        intro hU'
        obtain ⟨i1, i2⟩ := ih (xs.length - j) (by omega) j (xs.set pos c) (by rw [List.length_set]) (by simpa using hcl) hU'
        refine ⟨i1, i2.trans ?_⟩
        have := set_swap_perm (ys := xs.set pos new) (i := pos) (j := j) (a := new) (b := c) (by rw [List.getElem?_set]; simp [hlt]) (by rw [List.getElem?_set, if_neg hjp]; exact hcc)
        rwa [List.set_set] at this
      refine main ⟨fun i h1 h2 h3 h4 => ?_, fun i h1 h2 h3 h4 => ?_⟩
      · simp only [List.length_set] at h2
        simp only [kx_set]
        by_cases hip : i = pos
        · subst hip
          have e := hU.2 j (by omega) hcl hpar h1
          have b1 : ¬ (i = (i - 1) / 2) := by omega
          simp [b1, hlt]
          omega
        · have a3 : ¬ (pos = i) := fun e => hip e.symm
          by_cases hpp : (i - 1) / 2 = pos
          · have := hcs i h1 h2 hpp
            simp [hpp, hlt, a3]
            omega
          · have a5 : ¬ (pos = (i - 1) / 2) := fun e => hpp e.symm
            have := hU.1 i h1 h2 hip hpp
            simp [a3, a5]
            exact this
      · simp only [List.length_set] at h2
        have e := hU.1 i h1 h2 (by omega) (by omega)
        simp only [kx_set]
        have a3 : ¬ (pos = i) := by omega
        simp [hpar, hlt, a3]
        rw [h3, hkc] at e
        exact e
    · rw [dif_neg hc]
      refine ⟨siftDown_hp new pos _ (by simpa using hlt) ?_, ?_⟩
      · rw [List.set_set]
        refine ⟨fun i h1 h2 h3 => ?_, fun i h1 h2 h3 h4 => ?_⟩
        · simp only [List.length_set] at h2
          have a3 : ¬ (pos = i) := fun e => h3 e.symm
          have a5 : ¬ (pos = (i - 1) / 2) := by omega
          have := hU.1 i h1 h2 h3 (fun e => a5 e.symm)
          simp only [kx_set]
          simp [a3, a5]
          exact this
        · simp only [List.length_set] at h2
          omega
      · refine (siftDown_perm new pos _ (by simpa using hlt)).trans ?_
        rw [List.set_set]
theorem hp_root {xs : List Itm} (h : IsHp xs) : ∀ i, i < xs.length → kx xs 0 ≤ kx xs i := by
  intro i
  induction i using Nat.strongRecOn with
  | ind i ih =>
    intro hi
    by_cases h0 : i = 0
    · subst h0; exact Int.le_refl _
    · have a := ih ((i - 1) / 2) (by omega) (by omega)
      have b := h i (by omega) hi
      omega
/-- the heap holds the bag es -/
def Bag (ky : Nat → Str) (xs : List Itm) (es : List (Nat × Nat)) : Prop := IsHp xs ∧ (xs.map fun y => (y.k, y.p)).Perm (es.map fun e => ((4095 : Int) - (e.1 : Int), ky e.2))
theorem Bag.len {ky : Nat → Str} {xs : List Itm} {es : List (Nat × Nat)} (b : Bag ky xs es) : xs.length = es.length := by
  have := b.2.length_eq
  simpa using this
theorem hpush_perm (xs : List Itm) (y : Itm) : (hpush xs y).Perm (xs ++ [y]) := by
  unfold hpush
  refine (siftDown_perm y xs.length (xs ++ [y]) (by simp)).trans ?_
  rw [List.set_append_right _ _ (Nat.le_refl _)]
  simp
theorem Bag.push {ky : Nat → Str} {xs : List Itm} {es : List (Nat × Nat)} (b : Bag ky xs es) {y : Itm} {e : Nat × Nat} (hk : y.k = 4095 - (e.1 : Int)) (hp : y.p = ky e.2) : Bag ky (hpush xs y) (es ++ [e]) := by
  refine ⟨?_, ?_⟩
  · unfold hpush
    refine siftDown_hp y _ _ (by simp) ?_
    rw [List.set_append_right _ _ (Nat.le_refl _)]
    simp only [Nat.sub_self, List.set_cons_zero]
    have hx : ∀ i, i < xs.length → kx (xs ++ [y]) i = kx xs i := fun i hi => by unfold kx; rw [List.getElem?_append_left hi]
    refine ⟨fun i h1 h2 h3 => ?_, fun i h1 h2 h3 h4 => ?_⟩
    · simp only [List.length_append, List.length_singleton] at h2
      rw [hx _ (by omega), hx _ (by omega)]
      exact b.1 i h1 (by omega)
    · simp only [List.length_append, List.length_singleton] at h2
      omega
  · refine ((hpush_perm xs y).map _).trans ?_
    rw [List.map_append, List.map_append]
    refine b.2.append ?_
    simp [hk, hp]
theorem hrest_perm (a : Itm) (r : List Itm) (last : Itm) (h : IsHp (a :: r ++ [last])) : IsHp (hrest (a :: r) last) ∧ (hrest (a :: r) last).Perm (last :: r) := by
  unfold hrest
  rw [if_neg (by simp), List.set_cons_zero]
  have hx : ∀ i, 0 < i → i < (last :: r).length → kx (last :: r) i = kx (a :: r ++ [last]) i := fun i h1 h2 => by
    unfold kx
    obtain ⟨j, rfl⟩ : ∃ j, i = j + 1 := ⟨i - 1, by omega⟩
    rw [List.getElem?_cons_succ, List.cons_append, List.getElem?_cons_succ, List.getElem?_append_left (by simpa using h2)]
  have hU : HpU (last :: r) 0 := by
    refine ⟨fun i h1 h2 h3 h4 => ?_, fun i h1 h2 h3 h4 => by omega⟩
    rw [hx i h1 h2, hx _ (by omega) (by omega)]
    exact h i h1 (by simp at h2 ⊢; omega)
  obtain ⟨i1, i2⟩ := siftUp_both last _ 0 (last :: r) rfl (by simp) hU
  exact ⟨i1, by simpa using i2⟩
theorem Bag.pop {ky : Nat → Str} {ys : List Itm} {last : Itm} {es : List (Nat × Nat)} (b : Bag ky (ys ++ [last]) es) :
    ∃ e es', es.Perm (e :: es') ∧ (hfirst ys last).k = 4095 - (e.1 : Int) ∧ (hfirst ys last).p = ky e.2 ∧ (∀ e' ∈ es', e'.1 ≤ e.1) ∧ Bag ky (hrest ys last) es' := by
  obtain ⟨hh, hp⟩ := b
  have key : ∃ rest, IsHp rest ∧ hrest ys last = rest ∧ (ys ++ [last]).Perm (hfirst ys last :: rest) := by
    cases ys with
    | nil => exact ⟨[], fun i _ h2 => by simp at h2, rfl, by simp [hfirst]⟩
    | cons a r =>
      obtain ⟨h1, h2⟩ := hrest_perm a r last hh
      refine ⟨_, h1, rfl, ?_⟩
      show (a :: (r ++ [last])).Perm (a :: hrest (a :: r) last)
      exact List.Perm.cons a ((List.perm_append_singleton last r).trans h2.symm)
  obtain ⟨rest, hrest', hre, hperm⟩ := key
  rw [hre]
  have hpm := (hperm.map fun y => (y.k, y.p)).symm.trans hp
  rw [List.map_cons] at hpm
  have hmem := hpm.mem_iff.mp (.head _)
  obtain ⟨e, he, heq⟩ := List.mem_map.mp hmem
  have hpe := List.perm_cons_erase he
  have hcancel : (rest.map fun y => (y.k, y.p)).Perm ((es.erase e).map fun e => ((4095 : Int) - (e.1 : Int), ky e.2)) := by
    have := hpm.trans (hpe.map _)
    rw [List.map_cons, heq] at this
    exact this.cons_inv
  have hk : (hfirst ys last).k = 4095 - (e.1 : Int) := (congrArg Prod.fst heq).symm
  refine ⟨e, es.erase e, hpe, hk, (congrArg Prod.snd heq).symm, fun e' he' => ?_, hrest', hcancel⟩
  have hm2 : ((4095 : Int) - (e'.1 : Int), ky e'.2) ∈ (ys ++ [last]).map fun y => (y.k, y.p) := hp.symm.mem_iff.mp (List.mem_map.mpr ⟨e', List.mem_of_mem_erase he', rfl⟩)
  obtain ⟨y, hy, heq2⟩ := List.mem_map.mp hm2
  obtain ⟨i, hi, hyi⟩ := List.mem_iff_getElem.mp hy
  have hr := hp_root hh i hi
  have h0 : kx (ys ++ [last]) 0 = (hfirst ys last).k := by
    unfold kx hfirst
    cases ys <;> simp
  rw [h0, kx_get (List.getElem?_eq_some_iff.mpr ⟨hi, hyi⟩), hk] at hr
  have := congrArg Prod.fst heq2
  simp only at this
  omega
theorem mem_hpush {xs : List Itm} {it y : Itm} (h : y ∈ hpush xs it) : y = it ∨ y ∈ xs := by
  have := (hpush_perm xs it).mem_iff.mp h
  rcases List.mem_append.mp this with q | q
  · exact Or.inr q
  · exact Or.inl (List.mem_singleton.mp q)
theorem siftDown_mem (new : Itm) : ∀ (pos : Nat) (xs : List Itm) (y : Itm), y ∈ siftDown new xs pos → y = new ∨ y ∈ xs := by
  intro pos
  induction pos using Nat.strongRecOn with
  | ind pos ih =>
    intro xs y h
    rw [siftDown] at h
    by_cases h0 : pos = 0
    · rw [if_pos h0] at h
      rcases List.mem_or_eq_of_mem_set h with q | q
      · exact Or.inr q
      · exact Or.inl q
    · rw [if_neg h0] at h
      cases e : xs[(pos - 1) / 2]? with
      | none => rw [e] at h; exact Or.inr h
      | some par =>
        rw [e] at h
        dsimp only at h
        split at h
        · rcases ih _ (by omega) _ _ h with q | q
          · exact Or.inl q
          · rcases List.mem_or_eq_of_mem_set q with q | q
            · exact Or.inr q
            · exact Or.inr (q ▸ List.mem_of_getElem? e)
        · rcases List.mem_or_eq_of_mem_set h with q | q
          · exact Or.inr q
          · exact Or.inl q
theorem siftUp_mem (new : Itm) : ∀ (n pos : Nat) (xs : List Itm) (y : Itm), xs.length - pos = n → y ∈ siftUp new xs pos → y = new ∨ y ∈ xs := by
  intro n
  induction n using Nat.strongRecOn with
  | ind n ih =>
    intro pos xs y hn h
    rw [siftUp] at h
    split at h
    · rename_i hc
      have hcp := upChild_le xs pos
      cases e : xs[upChild xs pos]? with
      | none => rw [e] at h; exact Or.inr h
      | some c =>
        rw [e] at h
        dsimp only at h
        rcases ih (xs.length - upChild xs pos) (by omega) _ _ _ (by rw [List.length_set]) h with q | q
        · exact Or.inl q
        · rcases List.mem_or_eq_of_mem_set q with q | q
          · exact Or.inr q
          · exact Or.inr (q ▸ List.mem_of_getElem? e)
    · rcases siftDown_mem _ _ _ _ h with q | q
      · exact Or.inl q
      · rcases List.mem_or_eq_of_mem_set q with q | q
        · exact Or.inr q
        · exact Or.inl q
theorem mem_hrest {ys : List Itm} {last y : Itm} (h : y ∈ hrest ys last) : y ∈ ys ++ [last] := by
  unfold hrest at h
  split at h
  · cases h
  · rcases siftUp_mem _ _ _ _ _ rfl h with q | q
    · subst q; simp
    · rcases List.mem_or_eq_of_mem_set q with q | q
      · exact List.mem_append_left _ q
      · subst q; simp
theorem mem_hfirst {ys : List Itm} {last : Itm} : hfirst ys last ∈ ys ++ [last] := by
  unfold hfirst
  cases ys with
  | nil => simp
  | cons a r => simp
end
/-! PlainA -/
section
/-- two numbers without a common bit -/
theorem or_add : ∀ (n a b : Nat), a ≤ n → a &&& b = 0 → a + b = a ||| b := by
  intro n
  induction n with
  | zero =>
    intro a b h _
    have : a = 0 := by omega
    subst this
    simp
  | succ n ih =>
    intro a b hn h
    by_cases ha : a = 0
    · subst ha; simp
    have h2 : (a / 2) &&& (b / 2) = 0 := by
      have := congrArg (· / 2) h
      simpa [Nat.and_div_two] using this
    have e := ih (a / 2) (b / 2) (by omega) h2
    have e2 : (a ||| b) / 2 = a / 2 ||| b / 2 := Nat.or_div_two
    have e3 : (a ||| b).testBit 0 = (a.testBit 0 || b.testBit 0) := Nat.testBit_or ..
    have e4 : (a &&& b).testBit 0 = (a.testBit 0 && b.testBit 0) := Nat.testBit_and ..
    rw [h] at e4
    simp only [Nat.testBit_zero, Nat.zero_testBit] at e3 e4
    have p1 := Nat.mod_two_eq_zero_or_one a
    have p2 := Nat.mod_two_eq_zero_or_one b
    have p3 := Nat.mod_two_eq_zero_or_one (a ||| b)
    have e5 : (a ||| b) % 2 = a % 2 + b % 2 := by
      rcases p1 with q1 | q1 <;> rcases p2 with q2 | q2 <;> rcases p3 with q3 | q3 <;> simp [q1, q2, q3] at e3 e4 ⊢
    omega
/-- bits taken off -/
theorem and_sub_bit (m g i : Nat) : (m - (m &&& g)).testBit i = (m.testBit i && !g.testBit i) := by
  have h : m - (m &&& g) = m ^^^ (m &&& g) := by
    have hd : (m &&& g) + (m ^^^ (m &&& g)) = m := by
      have h0 : (m &&& g) &&& (m ^^^ (m &&& g)) = 0 := by
        apply Nat.eq_of_testBit_eq
        intro j
        simp only [Nat.testBit_and, Nat.testBit_xor, Nat.zero_testBit]
        cases m.testBit j <;> cases g.testBit j <;> rfl
      rw [or_add _ _ _ (Nat.le_refl _) h0]
      apply Nat.eq_of_testBit_eq
      intro j
      simp only [Nat.testBit_or, Nat.testBit_and, Nat.testBit_xor]
      cases m.testBit j <;> cases g.testBit j <;> rfl
    omega
  rw [h]
  simp only [Nat.testBit_and, Nat.testBit_xor]
  cases m.testBit i <;> cases g.testBit i <;> rfl
theorem add_fresh (m g : Nat) : g + (m - (m &&& g)) = g ||| m := by
  have h0 : g &&& (m - (m &&& g)) = 0 := by
    apply Nat.eq_of_testBit_eq
    intro j
    rw [Nat.testBit_and, and_sub_bit, Nat.zero_testBit]
    cases m.testBit j <;> cases g.testBit j <;> rfl
  rw [or_add _ _ _ (Nat.le_refl _) h0]
  apply Nat.eq_of_testBit_eq
  intro j
  rw [Nat.testBit_or, Nat.testBit_or, and_sub_bit]
  cases m.testBit j <;> cases g.testBit j <;> rfl
end
/-! GainA -/
section
/-- what is known of the eight keys: five folders, three links -/
structure Geo (ky lv : Nat → Str) (par go r : Nat → Nat) : Prop where
  nd : ((List.range 8).map ky).Nodup
  k0 : ky 0 = Str.ofString "/"
  len : ∀ j, j < 8 → (ky j).length ≤ 20
  dir : ∀ i, 1 ≤ i → i < 8 → dirF (ky i) = ky (par i)
  par5 : ∀ i, i < 8 → par i < 5
  goF : ∀ i, i < 5 → go i = i
  go5 : ∀ i, i < 8 → go i < 5
  lvz : ∀ i, 5 ≤ i → i < 8 → (lv i).length ≤ 100
  nok : ∀ i, 5 ≤ i → i < 8 → normOk (joinF (ky (par i)) (lv i)) = true
  norm : ∀ i, 5 ≤ i → i < 8 → normF (joinF (ky (par i)) (lv i)) = ky (go i)
  r12 : ∀ j, j < 5 → r j < 4096
theorem Geo.inj {ky lv : Nat → Str} {par go r : Nat → Nat} (G : Geo ky lv par go r) {i j : Nat} (hi : i < 8) (hj : j < 8) (e : ky i = ky j) : i = j := by
  refine (List.getElem?_inj (i := i) (j := j) (by simpa using hi) G.nd).mp ?_
  rw [List.getElem?_map, List.getElem?_map, List.getElem?_range hi, List.getElem?_range hj]; simp [e]
def md (r : Nat → Nat) (j : Nat) : Nat := if j < 5 then 16384 + r j else 41471
/-- the keys that lie right in folder p, among the first n -/
def wlN (par : Nat → Nat) (p n : Nat) : List Nat := (List.range n).filter fun i => decide (i ≠ 0) && decide (par i = p)
section
variable {prog : Program} {w : World} {A : Around} {E : Value → Shared → Prop} {s : Shared} {Q : Value → Shared → Prop}
theorem neNil {l b : Addr} {vs : List Value} (hl : s.heap.IsList l vs.toArray) (hb : s.heap.IsList b [].toArray) (hu : A.units < cLine) (h : Q (.bool (decide (vs ≠ []))) s) : wpAny (model prog w) A (compareOp .NotEq (.ref l) (.ref b)) Q E s := by
  cases vs with
  | nil =>
    have := SeqAt.RcNeAt.lists (e := fun _ => true) hl hb rfl hu (fun j h1 => by simp at h1)
    exact this prog w E Q (by simpa using h)
  | cons v vs =>
    have := SeqAt.RcNeAt.lists_lengths hl hb (by simp) hu
    exact this prog w E Q (by simpa using h)
end
/-- within, as it is built -/
def WSt (g0 : Heap) (ky : Nat → Str) (i : Nat) (g : Heap) (kvs : List (Str × Value)) : Prop :=
  ∃ as : List Addr, kvs = ((List.range i).map ky).zip (as.map Value.ref) ∧ as.length = i ∧ as.Nodup ∧ ∀ a ∈ as, Has g a (isLst []) ∧ g0.get? a = none
theorem thaw {g g1 h : Heap} {L : Addr} {m : Str → Option Value} {led : Lg} (as : Lg) (k : Sub g g1) (F : Fm g1 L h m) (N : Led g1 L h led) (ha : ∀ p ∈ as, Has g1 p.1 p.2 ∧ g.get? p.1 = none) (hnd : (as.map (·.1)).Nodup) :
    ∃ g2, Sub g g2 ∧ Fm g2 L h m ∧ Led g2 L h (as ++ led) ∧ ∀ b o, b ∉ as.map (·.1) → g1.get? b = some o → g2.get? b = some o := by
  refine ⟨hideAll g1 (as.map (·.1)), sub_hide k (fun a hq => ?_), ⟨F.ns, hide_sub.trans F.keep, ?_⟩, ⟨fun p hp => ?_, ?_⟩, fun b o hb e => hideAll_get _ e hb⟩
  · obtain ⟨p, hp, rfl⟩ := List.mem_map.mp hq
    exact (ha p hp).2
  · cases e : (hideAll g1 (as.map (·.1))).get? L with
    | none => rfl
    | some o => have := of_hideAll _ e; rw [F.off] at this; cases this
  · rcases List.mem_append.mp hp with hp | hp
    · obtain ⟨o, ho, hP⟩ := (ha p hp).1
      exact ⟨F.off' ho, hideAll_none _ (List.mem_map_of_mem hp), o, F.keep _ _ ho, hP⟩
    · refine ⟨(N.has p hp).1, ?_, (N.has p hp).2.2⟩
      cases e : (hideAll g1 (as.map (·.1))).get? p.1 with
      | none => rfl
      | some o => have := of_hideAll _ e; rw [(N.has p hp).2.1] at this; cases this
  · rw [List.map_append]
    refine List.nodup_append.mpr ⟨hnd, N.nd, fun a hq b hb e => ?_⟩
    subst e
    obtain ⟨p, hp, rfl⟩ := List.mem_map.mp hq
    obtain ⟨o, ho, _⟩ := (ha p hp).1
    exact N.off' ho hb
theorem as_range (as : List Addr) (n : Nat) (h : as.length = n) : ∃ wa : Nat → Addr, as = (List.range n).map wa := by
  refine ⟨fun j => (as[j]?).getD 0, List.ext_getElem? fun j => ?_⟩
  rw [List.getElem?_map]
  by_cases hj : j < n
  · rw [List.getElem?_range hj, List.getElem?_eq_getElem (by omega)]; simp [h, hj]
  · rw [List.getElem?_eq_none (by omega), List.getElem?_eq_none (by simp; omega)]; rfl
/-- the lists of within, in the ledger -/
def ledW (wa : Nat → Addr) (ws : Nat → List (Str × Tok)) : Lg := (List.range 8).map fun j => (wa j, isLst (strValues (ws j)))
theorem ledW_get (wa : Nat → Addr) (ws : Nat → List (Str × Tok)) (c : Lg) {p : Nat} (hp : p < 8) : (ledW wa ws ++ c)[p]? = some (wa p, isLst (strValues (ws p))) := by
  unfold ledW
  rw [List.getElem?_append_left (by simpa using hp), List.getElem?_map, List.getElem?_range hp]; rfl
theorem ledW_set (wa : Nat → Addr) (ws : Nat → List (Str × Tok)) (c : Lg) {p : Nat} (hp : p < 8) {x : Str} {t : Tok} :
    (ledW wa ws ++ c).set p (wa p, isLst (strValues (ws p) ++ [Value.str x t])) = ledW wa (fun j => if j = p then ws p ++ [(x, t)] else ws j) ++ c := by
  unfold ledW
  rw [List.set_append_left _ _ (by simpa using hp)]
  congr 1
  refine List.ext_getElem? fun j => ?_
  rw [List.getElem?_set, List.getElem?_map, List.getElem?_map]
  by_cases hj : j < 8
  · rw [List.getElem?_range hj]
    by_cases hpj : p = j
    · subst hpj
      rw [if_pos rfl, if_pos (by simpa using hp)]
      simp [strValues_snoc]
    · rw [if_neg hpj]
      have : ¬ (j = p) := fun e => hpj e.symm
      simp [this]
  · rw [List.getElem?_eq_none (by simpa using hj)]
    have : p ≠ j := by omega
    simp [this]
theorem wlN_succ (par : Nat → Nat) (p n : Nat) : wlN par p (n + 1) = wlN par p n ++ (if n ≠ 0 ∧ par n = p then [n] else []) := by
  unfold wlN
  rw [List.range_succ, List.filter_append]
  congr 1
  by_cases h : n ≠ 0 ∧ par n = p
  · rw [if_pos h]; simp [h.1, h.2]
  · rw [if_neg h]
    have : (decide (n ≠ 0) && decide (par n = p)) = false := by
      rw [Bool.eq_false_iff]
      intro q
      simp only [Bool.and_eq_true, decide_eq_true_eq] at q
      exact h q
    simp only [List.filter_cons, List.filter_nil, this]; rfl
theorem Led.tail {g h : Heap} {L : Addr} {led : Lg} {p : Addr × (Obj → Prop)} (N : Led g L h (p :: led)) : Led g L h led := ⟨fun q hq => N.has q (.tail _ hq), by have := N.nd; rw [List.map_cons, List.nodup_cons] at this; exact this.2⟩
theorem Led.sel {g h : Heap} {L : Addr} {led led' : Lg} (N : Led g L h led) (hs : ∀ p ∈ led', p ∈ led) (hn : (led'.map (·.1)).Nodup) : Led g L h led' := ⟨fun q hq => N.has q (hs q hq), hn⟩
theorem Led.perm {g h : Heap} {L : Addr} {led led' : Lg} (p : led.Perm led') (N : Led g L h led) : Led g L h led' := ⟨fun q hq => N.has q (p.mem_iff.mpr hq), (p.map _).nodup_iff.mp N.nd⟩
theorem md_and {r : Nat → Nat} {j : Nat} (hj : j < 5) (h : r j < 4096) : md r j &&& 4095 = r j := by
  unfold md
  rw [if_pos hj, show 4095 = 2 ^ 12 - 1 from rfl, Nat.and_two_pow_sub_one_eq_mod]
  omega
theorem md_imode {r : Nat → Nat} {j : Nat} (hj : j < 5) (h : r j < 4096) : Builtin.bitAnd (md r j : Int) 4095 = (r j : Int) := by
  have := bitAndN (md r j) 4095
  rw [md_and hj h] at this
  exact this
theorem mask_top {g : Nat} (h : g < 4096) : (16384 + g) &&& 61440 = 16384 := by
  have h1 := Nat.and_div_two_pow (a := 16384 + g) (b := 61440) (n := 12)
  have h2 := Nat.and_mod_two_pow (a := 16384 + g) (b := 61440) (n := 12)
  have e1 : (16384 + g) / 2 ^ 12 = 4 := by omega
  rw [e1, show 61440 / 2 ^ 12 = 15 from rfl, show (4 &&& 15 : Nat) = 4 from rfl] at h1
  rw [show 61440 % 2 ^ 12 = 0 from rfl, Nat.and_zero] at h2
  omega
theorem md_lnk0 {r : Nat → Nat} {j : Nat} (hj : j < 5) (h : r j < 4096) : (Builtin.bitAnd (md r j : Int) 61440 == 40960) = false := by
  have := bitAndN (md r j) 61440
  rw [show Builtin.bitAnd (md r j : Int) 61440 = ((md r j &&& 61440 : Nat) : Int) from this]
  unfold md
  rw [if_pos hj, mask_top h]; rfl
theorem md_lnk1 {r : Nat → Nat} {j : Nat} (hj : 5 ≤ j) : (Builtin.bitAnd (md r j : Int) 61440 == 40960) = true := by
  unfold md
  rw [if_neg (by omega)]; decide
theorem md_ifmt {r : Nat → Nat} {j : Nat} (hj : j < 5) (h : r j < 4096) : Builtin.bitAnd (md r j : Int) 61440 = 16384 := by
  have := bitAndN (md r j) 61440
  rw [show Builtin.bitAnd (md r j : Int) 61440 = ((md r j &&& 61440 : Nat) : Int) from this]
  unfold md
  rw [if_pos hj, mask_top h]; rfl
theorem modeAt {ky lv : Nat → Str} {par go r : Nat → Nat} (G : Geo ky lv par go r) {lM : List (Str × Int × Tok)} (hlM : lM.map (fun p => (p.1, p.2.1)) = (List.range 8).map fun j => (ky j, (md r j : Int))) : ∀ j, j < 8 → ∃ t, valueAt (intDct lM) (ky j) = some (.int (md r j : Int) t) := by
  intro j hj
  have hk : ((intDct lM).map (·.1)).Nodup := by
    rw [intDct_keys, keys_of hlM, List.map_map]; exact G.nd
  have e : (lM.map fun p => (p.1, p.2.1))[j]? = some (ky j, (md r j : Int)) := by rw [hlM, List.getElem?_map, List.getElem?_range hj]; rfl
  rw [List.getElem?_map] at e
  cases e2 : lM[j]? with
  | none => rw [e2] at e; cases e
  | some p =>
    rw [e2] at e
    obtain ⟨k, v, t⟩ := p
    simp only [Option.map_some, Option.some.injEq, Prod.mk.injEq] at e
    refine ⟨t, valueAt_get hk (i := j) ?_⟩
    unfold intDct
    rw [List.getElem?_map, e2]
    simp [e.1, e.2]
theorem intAtK {ky : Nat → Str} {gs : Nat → Nat} {l : List (Str × Int × Tok)} (hn : ((List.range 8).map ky).Nodup) (hl : l.map (fun p => (p.1, p.2.1)) = (List.range 8).map fun j => (ky j, (gs j : Int))) : ∀ j, j < 8 → ∃ t, valueAt (intDct l) (ky j) = some (.int (gs j : Int) t) ∧ (intDct l)[j]? = some (ky j, .int (gs j : Int) t) := by
  intro j hj
  have hk : ((intDct l).map (·.1)).Nodup := by
    rw [intDct_keys, keys_of hl, List.map_map]; exact hn
  have e : (l.map fun p => (p.1, p.2.1))[j]? = some (ky j, (gs j : Int)) := by rw [hl, List.getElem?_map, List.getElem?_range hj]; rfl
  rw [List.getElem?_map] at e
  cases e2 : l[j]? with
  | none => rw [e2] at e; cases e
  | some p =>
    rw [e2] at e
    obtain ⟨k, v, t⟩ := p
    simp only [Option.map_some, Option.some.injEq, Prod.mk.injEq] at e
    have q : (intDct l)[j]? = some (ky j, .int (gs j : Int) t) := by
      unfold intDct
      rw [List.getElem?_map, e2]
      simp [e.1, e.2]
    exact ⟨t, valueAt_get hk (i := j) q, q⟩
theorem intDct_set {l : List (Str × Int × Tok)} {j : Nat} {k : Str} {v : Int} {t : Tok} : (intDct l).set j (k, Value.int v t) = intDct (l.set j (k, v, t)) := by unfold intDct; rw [List.map_set]
theorem gain_set {ky : Nat → Str} {gs : Nat → Nat} {l : List (Str × Int × Tok)} (hl : l.map (fun p => (p.1, p.2.1)) = (List.range 8).map fun j => (ky j, (gs j : Int))) {j : Nat} (hj : j < 8) {v : Int} {t : Tok} :
    (l.set j (ky j, v, t)).map (fun p => (p.1, p.2.1)) = (List.range 8).map fun i => (ky i, if i = j then v else (gs i : Int)) := by
  rw [List.map_set, hl]
  refine List.ext_getElem? fun i => ?_
  rw [List.getElem?_set, List.getElem?_map, List.getElem?_map]
  by_cases hi : i < 8
  · rw [List.getElem?_range hi]
    by_cases hij : j = i
    · subst hij
      rw [if_pos rfl, if_pos (by simpa using hj)]
      simp
    · rw [if_neg hij]
      have : ¬ (i = j) := fun e => hij e.symm
      simp [this]
  · rw [List.getElem?_eq_none (by simpa using hi)]
    have : j ≠ i := by omega
    simp [this]
theorem linkAt {ky lv : Nat → Str} {par go r : Nat → Nat} (G : Geo ky lv par go r) {lL : List (Str × Str × Tok)} (hlL : lL.map (fun p => (p.1, p.2.1)) = (List.range 3).map fun k => (ky (5 + k), lv (5 + k))) : ∀ j, 5 ≤ j → j < 8 → ∃ t, valueAt (strDct lL) (ky j) = some (.str (lv j) t) := by
  intro j h5 hj
  have hk : ((strDct lL).map (·.1)).Nodup := by
    rw [strDct_keys, keys_of hlL, List.map_map]
    have := G.nd
    rw [show List.range 8 = List.range 5 ++ (List.range 3).map (5 + ·) from rfl, List.map_append, List.map_map] at this
    exact (List.nodup_append.mp this).2.1
  have e : (lL.map fun p => (p.1, p.2.1))[j - 5]? = some (ky j, lv j) := by rw [hlL, List.getElem?_map, List.getElem?_range (by omega)]; simp only [Option.map_some]; rw [show 5 + (j - 5) = j by omega]
  rw [List.getElem?_map] at e
  cases e2 : lL[j - 5]? with
  | none => rw [e2] at e; cases e
  | some p =>
    rw [e2] at e
    obtain ⟨k, v, t⟩ := p
    simp only [Option.map_some, Option.some.injEq, Prod.mk.injEq] at e
    refine ⟨t, valueAt_get hk (i := j - 5) ?_⟩
    unfold strDct
    rw [List.getElem?_map, e2]
    simp [e.1, e.2]
def freshN (e : Nat × Nat) (gs : Nat → Nat) : Nat := e.1 - (e.1 &&& gs e.2)
def updN (gs : Nat → Nat) (e : Nat × Nat) : Nat → Nat := fun j => if j = e.2 then gs j + freshN e gs else gs j
def pushN (go r : Nat → Nat) (f : Nat) (is : List Nat) : List (Nat × Nat) := is.filterMap fun i => if 0 < f &&& r (go i) then some (f &&& r (go i), go i) else none
/-- the plain side: what holds of the bag, of what was gained and of what lacked -/
structure Plain (par go r : Nat → Nat) (Inv : List (Nat × Nat) → (Nat → Nat) → List Int → Prop) (mu : List (Nat × Nat) → (Nat → Nat) → Nat) : Prop where
  init : Inv [(r 0, 0)] (fun _ => 0) []
  bound : ∀ es gs ls, Inv es gs ls → es.length ≤ 1000000 ∧ ls.length ≤ 1000000 ∧ (∀ e ∈ es, e.1 ≤ 4095 ∧ e.2 < 5) ∧ ∀ j, gs j ≤ 4095
  turn : ∀ es gs ls e es', Inv es gs ls → es.Perm (e :: es') → (∀ e' ∈ es', e'.1 ≤ e.1) → Inv (es' ++ pushN go r (freshN e gs) (wlN par e.2 8)) (updN gs e) (ls ++ [4095 - (e.1 : Int)]) ∧ mu (es' ++ pushN go r (freshN e gs) (wlN par e.2 8)) (updN gs e) < mu es gs
/-- what stands between the turns of the while -/
def GSt (prog : Program) (w : World) (L D HP GD LK la ma : Addr) (ky : Nat → Str) (g0 : Heap) (gs : Nat → Nat) (xs : List Itm) (ll : List (Int × Tok)) (lG : List (Str × Int × Tok)) (g h : Heap) (u : Str → Option Value) : Prop :=
  Sub g0 g ∧ Fm g L h (ov [(Str.ofString "lacks", .ref LK), (Str.ofString "heap", .ref HP), (Str.ofString "within", .ref D)] u) ∧
  Led g L h [(HP, isLst (refs xs)), (GD, isDct prog w (intDct lG)), (LK, isLst (intValues ll)), (L + 3, isCell (some (.ref GD))), (L + 2, isCell (some (.ref la))), (L + 1, isCell (some (.ref ma)))] ∧
  Pairs g xs ∧ lG.map (fun p => (p.1, p.2.1)) = (List.range 8).map fun j => (ky j, (gs j : Int))
/-- what stands between the turns of the loop over the spots -/
def FSt (prog : Program) (w : World) (L D HP GD LK la ma : Addr) (ky : Nat → Str) (lG : List (Str × Int × Tok)) (ll : List (Int × Tok)) (f j : Nat) (bag : List (Nat × Nat)) (g : Heap) (ps : List (Str × Value)) (led : Lg) : Prop :=
  ∃ xs tf tp, ps = [(Str.ofString "fresh", .int (f : Int) tf), (Str.ofString "path", .str (ky j) tp), (Str.ofString "lacks", .ref LK), (Str.ofString "heap", .ref HP), (Str.ofString "within", .ref D)] ∧
    led = [(HP, isLst (refs xs)), (GD, isDct prog w (intDct lG)), (LK, isLst (intValues ll)), (L + 3, isCell (some (.ref GD))), (L + 2, isCell (some (.ref la))), (L + 1, isCell (some (.ref ma)))] ∧ Pairs g xs ∧ Bag ky xs bag
theorem bag_one {ky : Nat → Str} {it : Itm} {r0 : Nat} (h1 : it.k = 4095 - (r0 : Int)) (h2 : it.p = ky 0) : Bag ky [it] [(r0, 0)] := by
  refine ⟨fun i hi h2 => ?_, ?_⟩
  · simp at h2; omega
  · simp [h1, h2]
section
variable {prog : Program} {w : World} {A : Around} {E : Value → Shared → Prop} {s : Shared} {hT : Heap} {mg mb : Str → Option Value} {Q : Value → Shared → Prop}
theorem gained_spec {ma la : Addr} {lM : List (Str × Int × Tok)} {lL : List (Str × Str × Tok)} {ky lv : Nat → Str} {par go r : Nat → Nat} {Inv : List (Nat × Nat) → (Nat → Nat) → List Int → Prop} {mu : List (Nat × Nat) → (Nat → Nat) → Nat} (PL : Plain par go r Inv mu) (G : Geo ky lv par go r) (O : Ok w mg mb hT) (kT : Sub hT s.heap) (R : Room A 7)
    (hM : Has s.heap ma (isDct prog w (intDct lM))) (hL : Has s.heap la (isDct prog w (strDct lL))) (hma : (ma == sysModules) = false) (hla : (la == sysModules) = false)
    (hlM : lM.map (fun p => (p.1, p.2.1)) = (List.range 8).map fun j => (ky j, (md r j : Int))) (hlL : lL.map (fun p => (p.1, p.2.1)) = (List.range 3).map fun k => (ky (5 + k), lv (5 + k)))
    (h : ∀ h' tk' a ta ka lt ll gs ls, Sub s.heap h' → Has h' a (isTup [.ref ta, .ref ka]) → Has h' ta (isLst (strValues lt)) → Has h' ka (isLst (intValues ll)) → s.heap.get? a = none → s.heap.get? ta = none → s.heap.get? ka = none →
      lt.map (·.1) = ((List.range 5).map fun j => fmF ((16384 : Int) + (gs j : Int))) → ll.map (·.1) = ls → Inv [] gs ls → Q (.ref a) { s with heap := h', toks := tk' }) :
    wpAny (model prog w) A (call (.ref 256) [.ref ma, .ref la]) Q E s := by
  have hsl : sizeLine = 16777216 := rfl
  refine enterC [(Str.ofString "modes", .ref ma), (Str.ofString "links", .ref la)] O kT rfl rfl R.depth rfl (by intro n x hx; simp only [List.mem_cons, List.not_mem_nil, or_false] at hx; rcases hx with rfl | rfl <;> exact Or.inr ⟨by with_unfolding_all rfl, by with_unfolding_all rfl⟩) (by with_unfolding_all decide) ?_
  intro L h₁ tk O' F N
  replace F : Fm (hideAll s.heap []) L h₁ (ov [] fun _ => none) := by with_unfolding_all exact F
  replace N : Led (hideAll s.heap []) L h₁ [(L + 3, isCell none), (L + 2, isCell (some (.ref la))), (L + 1, isCell (some (.ref ma)))] := by with_unfolding_all exact N
  have LC := lcells
  have hM1 := hide_has hM
  have hL1 := hide_has hL
  have hlen8 : (intDct lM).length = 8 := by rw [intDct_len]; have := congrArg List.length hlM; simpa using this
  have hkM : (intDct lM).map (·.1) = (List.range 8).map ky := by rw [intDct_keys, keys_of hlM, List.map_map]; rfl
  refine wpAny_execs_cons ?_
  refine dcomp_asg (cl := []) (by with_unfolding_all rfl) (by with_unfolding_all rfl) (by with_unfolding_all decide) (by with_unfolding_all rfl) (by with_unfolding_all decide) (by with_unfolding_all rfl) ?_ (by intro _; with_unfolding_all rfl)
  refine qlc 2 ?_
  dsimp only
  refine src_keys R.hh hma hM1 F N ?_
  intro it h2 tk2 hS
  refine ⟨hideAll s.heap [], _, _, _, _, WSt (hideAll s.heap []) ky, hS, by omega, ⟨[], rfl, rfl, .nil, fun _ q => nomatch q⟩, ?_, ?_⟩
  · intro i v h4 tk4 g4 gI C u ys hi hv k4 kI hp hlen F4 N4
    obtain ⟨k, t, hk, rfl⟩ := hv
    rw [hlen8] at hi
    rw [hkM, List.getElem?_map, List.getElem?_range hi] at hk
    cases hk
    rw [List.forIn_nil]
    refine wpAny_pure ?_
    rw [if_pos rfl]
    refine qlo ?_
    refine List_ ?_
    refine args_nil ?_
    refine newLst (by assumption) (by assumption) (by with_unfolding_all exact Nat.le_of_ble_eq_true rfl) ?_; intro a' h' F' N'
    refine ⟨_, _, rfl, ?_⟩
    dsimp only
    obtain ⟨as, rfl, hal, han, hag⟩ := hp
    have hgI : ∀ a ∈ as, a ≠ a' := by
      rintro a ha rfl
      obtain ⟨o, ho, _⟩ := (hag a ha).1
      have := N'.off 0 rfl
      rw [kI _ _ ho] at this; cases this
    refine ⟨?_, _, _, _, [(a', _)], rfl, F', N', fun g5 k5 q5 => ⟨as ++ [a'], ?_, ?_, ?_, ?_⟩⟩
    · intro q
      rw [List.map_fst_zip (by simp [hal])] at q
      obtain ⟨j, hj, e⟩ := List.mem_map.mp q
      have hj := List.mem_range.mp hj
      have := G.inj (by omega) hi e
      omega
    · rw [List.range_succ, List.map_append, List.map_append, List.zip_append (by simp [hal])]; rfl
    · simp [hal]
    · exact List.nodup_append.mpr ⟨han, by simp, fun a ha b hb => by rw [List.mem_singleton.mp hb]; exact hgI a ha⟩
    · intro a ha
      rcases List.mem_append.mp ha with ha | ha
      · exact ⟨k5.has (hag a ha).1, (hag a ha).2⟩
      · rw [List.mem_singleton.mp ha]
        refine ⟨q5 _ (.head _), ?_⟩
        have := N'.off 0 rfl
        cases e : (hideAll s.heap []).get? a' with
        | none => rfl
        | some o => rw [kI _ _ (k4 _ _ e)] at this; cases this
  · intro C D h4 tk4 g4 ys mC k4 hp F4 N4 hC hCL hCD hCl hnC
    rw [hlen8] at hp
    obtain ⟨as, rfl, hal, han, hag⟩ := hp
    refine comp_sto F4 N4 hC hCL (by simpa using ⟨hCD, by simpa using hCl⟩) hnC ?_ (by with_unfolding_all rfl) (by with_unfolding_all rfl)
    intro h5 tk5 F5 N5
    have hDas : D ∉ as := fun q => by
      obtain ⟨o, ho, _⟩ := (hag D q).1
      have := N5.off 0 rfl
      rw [ho] at this; cases this
    obtain ⟨g5, F5, N5, k5, q5⟩ := freeze [(D, _)] (led := [(L + 3, isCell none), (L + 2, isCell (some (.ref la))), (L + 1, isCell (some (.ref ma)))]) F5 N5
    obtain ⟨wa, hwa⟩ := as_range as 8 hal
    obtain ⟨g6, k6, F6, N6, e6⟩ := thaw (as.map fun a => (a, isLst [])) (k4.trans k5) F5 N5 (fun p hp => by
      obtain ⟨a, ha, rfl⟩ := List.mem_map.mp hp
      exact ⟨k5.has (hag a ha).1, (hag a ha).2⟩) (by rw [List.map_map]; simpa [Function.comp_def] using han)
    have hDg : Has g6 D (isDct prog w (((List.range 8).map ky).zip (as.map Value.ref))) := by
      obtain ⟨o, ho, hP⟩ := q5 _ (.head _)
      exact ⟨o, e6 _ _ (by rw [List.map_map]; simpa [Function.comp_def] using hDas) ho, hP⟩
    have hkz : ((List.range 8).map ky).zip (as.map Value.ref) = (List.range 8).map fun j => (ky j, Value.ref (wa j)) := by
      rw [hwa, List.map_map, List.zip_map']; rfl
    rw [hkz] at hDg
    clear hkz q5 e6 F4 N4 hC hCL hCD hCl hnC hDas
    have hlw : (as.map fun a => ((a, isLst []) : Addr × (Obj → Prop))) = ledW wa (fun _ => []) := by rw [hwa, List.map_map]; rfl
    rw [hlw] at N6
    refine wpAny_execs_cons ?_
    refine wpAny_For ?_ (by intro _; with_unfolding_all rfl)
    refine qlc 10 ?_
    dsimp only
    have O6 := O'.keeps k6
    refine for_keys R.hh hma (k6.has hM1) (fun i _ ps led => ps = [(Str.ofString "within", .ref D)] ∧ ∃ ws : Nat → List (Str × Tok), led = ledW wa ws ++ [(L + 3, isCell none), (L + 2, isCell (some (.ref la))), (L + 1, isCell (some (.ref ma)))] ∧ ∀ j, j < 8 → (ws j).map (·.1) = (wlN par j i).map ky) F6 N6 ⟨rfl, fun _ => [], rfl, fun _ _ => rfl⟩ ?_ ?_
    · rintro i k t h7 tk7 g7 gJ ps u7 led hi hk k7 kJ ⟨rfl, ws, rfl, hws⟩ hd7 F7 N7
      rw [hlen8] at hi
      rw [hkM, List.getElem?_map, List.getElem?_range hi] at hk
      cases hk
      have O7 := O6.keeps (k7.trans kJ)
      have hz := G.len i hi
      refine wpAny_assign_Name ?_
      refine qst ?_; intro h' tk' F' N'
      refine wpAny_execs_cons ?_
      refine wpAny_If ?_
      refine wpAny_isTrue_Compare1 ?_ (by with_unfolding_all rfl)
      refine qlo ?_
      refine cst_str ?_; intro t' k'
      refine P.ne_str ?_
      refine wpAny_truthy_bool ?_
      dsimp only
      by_cases ci : i = 0
      · subst ci
        refine itb_f (by rw [G.k0]; decide) ?_
        refine wpAny_execs_nil ?_
        refine wpAny_execs_nil ?_
        dsimp only
        obtain ⟨u8, F8⟩ := F'.sel [(Str.ofString "within", .ref D)] (by with_unfolding_all rfl)
        exact ⟨_, _, _, u8, [], _, rfl, F8, N', rfl, fun _ _ _ => ⟨rfl, ws, rfl, hws⟩⟩
      · refine itb_t ?_ ?_
        · simp only [bne_iff_ne, ne_eq]
          intro q
          have : ky i = ky 0 := by rw [G.k0]; exact Str.ext' (Array.toList_inj.mp q)
          exact ci (G.inj hi (by decide) this)
        refine wpAny_execs_cons ?_
        refine wpAny_Expr ?_ (by with_unfolding_all rfl) (by with_unfolding_all rfl)
        refine callLst PySem.F.slot_list_append PySem.F.type_list_append ?_ (by with_unfolding_all rfl) (by with_unfolding_all rfl) (by with_unfolding_all rfl)
        refine Subscript_ ?_
        refine qlo ?_
        refine Call_ ?_ (by with_unfolding_all rfl)
        refine qgl (gn_dirname _) ?_
        refine qfn (kp_dirname _) ?_
        refine args_cons ?_ (by with_unfolding_all rfl)
        refine qlo ?_
        refine args_nil ?_
        refine ⟨Fm.keep (by assumption), ?_⟩
        refine dirname_call (by assumption) (by assumption) (by assumption) (by walk_at "room") (by walk_at "size") ?_; intro h' tk' t' F' N'
        dsimp only
        rw [G.dir i (by omega) hi]
        have hp5 := G.par5 i hi
        have hDJ := (k7.trans kJ).has hDg
        have hkn : (((List.range 8).map fun j => (ky j, Value.ref (wa j))).map (·.1)).Nodup := by rw [List.map_map]; exact G.nd
        refine itemDct (F'.keep.has hDJ) (valueAt_get hkn (i := par i) (v := .ref (wa (par i))) (by rw [List.getElem?_map, List.getElem?_range (by omega)]; rfl)) ?_
        intro tk8
        have hgp := ledW_get wa ws [(L + 3, isCell none), (L + 2, isCell (some (.ref la))), (L + 1, isCell (some (.ref ma)))] (show par i < 8 by omega)
        refine ⟨_, _, rfl, N'.get (par i) hgp, ?_⟩
        refine args_cons ?_ (by with_unfolding_all rfl)
        refine qlo ?_
        refine args_nil ?_
        dsimp only
        have hwl : (strValues (ws (par i))).length ≤ 8 := by
          have := congrArg List.length (hws (par i) (by omega))
          rw [List.length_map, List.length_map] at this
          have h2 : (wlN par (par i) i).length ≤ i := by unfold wlN; exact Nat.le_trans (List.length_filter_le _ _) (by simp)
          unfold strValues; rw [List.length_map]; omega
        refine append_lst (N'.get (par i) hgp) (by omega) ?_
        intro h8 H8 k8
        have F8 := F'.upd (N'.ne (par i) hgp) (N'.off (par i) hgp) k8
        have N8 := N'.upd (par i) hgp k8 H8
        rw [ledW_set wa ws _ (show par i < 8 by omega)] at N8
        refine wpAny_execs_nil ?_
        refine wpAny_execs_nil ?_
        dsimp only
        obtain ⟨u8, F8⟩ := F8.sel [(Str.ofString "within", .ref D)] (by with_unfolding_all rfl)
        refine ⟨_, _, _, u8, [], _, rfl, F8, N8, rfl, fun _ _ _ => ⟨rfl, fun j => if j = par i then ws (par i) ++ [(ky i, t)] else ws j, rfl, fun j hj => ?_⟩⟩
        rw [wlN_succ, List.map_append]
        by_cases hjp : j = par i
        · subst hjp
          simp [ci, hws _ hj]
        · have : ¬ (par i = j) := fun e => hjp e.symm
          simp [hjp, this, hws _ hj]
    · rintro h7 tk7 g7 ps u7 led k7 ⟨rfl, ws, rfl, hws⟩ hd7 F7 N7
      rw [hlen8] at hws
      obtain ⟨g8, F8, N8, k8, q8⟩ := freeze (ledW wa ws) F7 N7
      have hW : ∀ j, j < 8 → Has g8 (wa j) (isLst (strValues (ws j))) := fun j hj => q8 _ (List.mem_map.mpr ⟨j, List.mem_range.mpr hj, rfl⟩)
      have hD8 := (k7.trans k8).has hDg
      have O8 := O6.keeps (k7.trans k8)
      have kT8 := k6.trans (k7.trans k8)
      have hM8 := kT8.has hM1
      have hL8 := kT8.has hL1
      clear q8 hDg O6 N6 F6 N5 F5 F7 N7 hd7 hag han hlw hwa
      have hMv := modeAt G hlM
      have hLv := linkAt G hlL
      have hr0 := G.r12 0 (by decide)
      refine wpAny_execs_nil ?_
      refine wpAny_execs_cons ?_
      refine Assign_Tuple ?_ (by with_unfolding_all rfl) (by with_unfolding_all rfl)
      refine Tuple_ ?_
      refine args_cons ?_ (by with_unfolding_all rfl)
      refine List_ ?_
      refine args_cons ?_ (by with_unfolding_all rfl)
      refine Tuple_ ?_
      refine args_cons ?_ (by with_unfolding_all rfl)
      refine wpAny_BinOp ?_
      refine cst_int ?_; intro t' k'
      refine Call_ ?_ (by with_unfolding_all rfl)
      refine qgl (gn_S_IMODE _) ?_
      refine qfn (kp_S_IMODE _) ?_
      refine args_cons ?_ (by with_unfolding_all rfl)
      refine Subscript_ ?_
      refine qlc 2 ?_
      refine cst_str ?_; intro t' k'
      dsimp only
      obtain ⟨tm0, htm0⟩ := hMv 0 (by decide)
      rw [G.k0] at htm0
      refine itemDct (F8.keep.has hM8) htm0 ?_
      intro tk9
      refine args_nil ?_
      refine ⟨Fm.keep (by assumption), ?_⟩
      refine imode_call (by assumption) (by assumption) (by assumption) (by walk_at "room") ?_; intro h' tk' t' F' N'
      refine subI ?_; intro t' k'
      rw [md_imode (by decide) hr0]
      refine args_cons ?_ (by with_unfolding_all rfl)
      refine cst_str ?_; intro t' k'
      refine args_nil ?_
      refine newTup (by assumption) (by assumption) (by with_unfolding_all exact Nat.le_of_ble_eq_true rfl) ?_; intro a' h' F' N'
      refine args_nil ?_
      refine newLst (by assumption) (by assumption) (by with_unfolding_all exact Nat.le_of_ble_eq_true rfl) ?_; intro a' h' F' N'
      refine args_cons ?_ (by with_unfolding_all rfl)
      dsimp only
      obtain ⟨HP, hHP⟩ : ∃ x, x = a' := ⟨_, rfl⟩
      subst hHP
      obtain ⟨it0, hit0, hit1, N9⟩ : ∃ it0 : Itm, it0.k = 4095 - (r 0 : Int) ∧ it0.p = ky 0 ∧ Led g8 L h' [(HP, isLst (refs [it0])), (it0.a, isTup [.int it0.k it0.tk, .str it0.p it0.tp]), (L + 3, isCell none), (L + 2, isCell (some (.ref la))), (L + 1, isCell (some (.ref ma)))] := ⟨⟨_, _, _, _, _⟩, rfl, G.k0.symm, N'⟩
      clear N'
      refine dcomp_eval (cl := []) (by with_unfolding_all rfl) (by with_unfolding_all decide) (by with_unfolding_all rfl) (by with_unfolding_all decide) (by with_unfolding_all rfl) ?_ (by intro _; with_unfolding_all rfl)
      refine qlc 4 ?_
      refine src_keys R.hh hma hM8 F' N9 ?_
      intro it h10 tk10 hS10
      refine ⟨g8, _, _, _, _, (fun i _ kvs => ∃ lG : List (Str × Int × Tok), kvs = intDct lG ∧ lG.map (fun p => (p.1, p.2.1)) = (List.range i).map fun j => (ky j, (0 : Int))), hS10, by omega, ⟨[], rfl, rfl⟩, ?_, ?_⟩
      · intro i v h11 tk11 g11 gI C u ys hi hv k11 kI hp hlen F11 N11
        obtain ⟨k, t, hk, rfl⟩ := hv
        rw [hlen8] at hi
        rw [hkM, List.getElem?_map, List.getElem?_range hi] at hk
        cases hk
        rw [List.forIn_nil]
        refine wpAny_pure ?_
        rw [if_pos rfl]
        obtain ⟨lG, rfl, hlG⟩ := hp
        refine qlo ?_
        refine cst_int ?_; intro t' k'
        refine ⟨_, _, rfl, ?_⟩
        dsimp only
        refine ⟨?_, _, _, _, [], rfl, F11, N11, fun g5 k5 q5 => ⟨_, intDct_snoc, ?_⟩⟩
        · rw [intDct_keys, keys_of hlG, List.map_map]
          intro q
          obtain ⟨j, hj, e⟩ := List.mem_map.mp q
          have hj := List.mem_range.mp hj
          have := G.inj (by omega) hi e
          omega
        · rw [List.map_append, hlG, List.range_succ, List.map_append]; rfl
      · intro GD h11 tk11 g11 ys k11 hp F11 N11
        rw [hlen8] at hp
        obtain ⟨lG, rfl, hlG⟩ := hp
        have O11 := O8.keeps k11
        refine args_cons ?_ (by with_unfolding_all rfl)
        refine List_ ?_
        refine args_nil ?_
        refine newLst (by assumption) (by assumption) (by with_unfolding_all exact Nat.le_of_ble_eq_true rfl) ?_; intro a' h' F' N'
        refine args_nil ?_
        obtain ⟨LK, hLK⟩ : ∃ x, x = a' := ⟨_, rfl⟩
        subst hLK
        refine newTup (by assumption) (by assumption) (by with_unfolding_all exact Nat.le_of_ble_eq_true rfl) ?_; intro a' h' F' N'
        dsimp only
        refine asg3 (by assumption) (by assumption) R.hh ⟨_, (N'.get 0 rfl).tup, rfl, 0, rfl⟩ ?_ (by with_unfolding_all rfl) (by with_unfolding_all rfl)
        intro h' F' N'
        refine wpAny_assign_Name ?_
        refine qst ?_; intro h' tk' F' N'
        refine wpAny_assign_Name ?_
        dsimp only
        refine stoc (c := L + 3) (by with_unfolding_all rfl) (N'.get 5 rfl) ?_ (by with_unfolding_all rfl) (by with_unfolding_all rfl)
        intro h12 H12 k12
        have F12 := F'.upd (N'.ne 5 rfl) (N'.off 5 rfl) k12
        have N12 := N'.upd 5 rfl k12 H12
        refine wpAny_assign_Name ?_
        refine qst ?_; intro h' tk' F' N'
        refine wpAny_execs_cons ?_
        dsimp only
        have NB : Led g11 L h' ([(it0.a, isTup [.int it0.k it0.tk, .str it0.p it0.tp])] ++ [(HP, isLst (refs [it0])), (GD, isDct prog w (intDct lG)), (LK, isLst []), (L + 3, isCell (some (.ref GD))), (L + 2, isCell (some (.ref la))), (L + 1, isCell (some (.ref ma)))]) := by
          refine Led.sel N' ?_ ?_
          · intro p hp
            simp only [List.cons_append, List.nil_append, List.mem_cons, List.not_mem_nil, or_false] at hp ⊢
            rcases hp with rfl | rfl | rfl | rfl | rfl | rfl | rfl <;> simp [List.set]
          · have := N'.nd
            simp only [List.set, List.map_cons, List.map_nil, List.nodup_cons, List.mem_cons, List.not_mem_nil, or_false, not_or, List.cons_append, List.nil_append] at this ⊢
            grind
        obtain ⟨g12, F13, N13, k13, q13⟩ := freeze _ F' NB
        have kT12 := kT8.trans (k11.trans k13)
        refine while_ (fun n s' => ∃ g h tk u xs lG ll es gs ls, s' = { s with heap := h, toks := tk } ∧ GSt prog w L D HP GD LK la ma ky g12 gs xs ll lG g h u ∧ Bag ky xs es ∧ Inv es gs ls ∧ ll.map (·.1) = ls ∧ n = mu es gs) _ ⟨g12, _, _, u7, [it0], lG, [], [(r 0, 0)], fun _ => 0, [], rfl, ⟨Sub.refl _, F13, N13, ?_, hlG⟩, bag_one hit0 hit1, PL.init, rfl, rfl⟩ ?_
        · intro i hi
          rw [List.mem_singleton.mp hi]
          exact (q13 _ (.head _)).tup
        clear q13 F13 NB N' F' N12 F12 H12 k12 N9 F11 N11 F8 N8
        rintro n s' ⟨g, h13, tk13, u, xs, lG2, ll, es, gs, ls, rfl, ⟨kg, F, N, hPr, hG⟩, hB, hI, hll, rfl⟩
        obtain ⟨bd1, bd2, bd3, bd4⟩ := PL.bound _ _ _ hI
        have hxl := hB.len
        have Og := O8.keeps (k11.trans (k13.trans kg))
        refine wpAny_isTrue_Compare1 ?_ (by with_unfolding_all rfl)
        refine qlo ?_
        refine List_ ?_
        refine args_nil ?_
        refine newLst (by assumption) (by assumption) (by with_unfolding_all exact Nat.le_of_ble_eq_true rfl) ?_; intro a' h' F' N'
        dsimp only
        refine neNil (N'.get 1 rfl).list (N'.get 0 rfl).list (Room.units (n := 6) R.deeper) ?_
        refine wpAny_truthy_bool ?_
        by_cases hx : xs = []
        · subst hx
          refine ite_f (by simp) ?_
          have hes : es = [] := by
            have : es.length = 0 := by rw [← hxl]; rfl
            exact List.length_eq_zero_iff.mp this
          subst hes
          have kgg := k11.trans (k13.trans kg)
          have hMg := kgg.has hM8
          have hLg := kgg.has hL8
          have hgl := intAtK G.nd hG
          obtain ⟨g30, F30, N30, k30, q30⟩ := freeze _ (led := []) F' (by simpa using N')
          have hGD := q30 (GD, isDct prog w (intDct lG2)) (by simp)
          have hLK := q30 (LK, isLst (intValues ll)) (by simp)
          have hC3 := q30 (L + 3, isCell (some (.ref GD))) (by simp)
          have hC2 := q30 (L + 2, isCell (some (.ref la))) (by simp)
          have hC1 := q30 (L + 1, isCell (some (.ref ma))) (by simp)
          have hLKf : s.heap.get? LK = none := N'.fresh (kT8.trans kgg) 3 rfl
          clear q30 N' N F
          have O30 := Og.keeps k30
          have hlz : ll.length ≤ 1000000 := by rw [← hll] at bd2; simpa using bd2
          have hkL : (strDct lL).map (·.1) = (List.range 3).map fun k => ky (5 + k) := by rw [strDct_keys, keys_of hlL, List.map_map]; rfl
          replace hC1 : Has g30 (L + 1) (isCell (some (.ref ma))) := hC1
          replace hC2 : Has g30 (L + 2) (isCell (some (.ref la))) := hC2
          replace hC3 : Has g30 (L + 3) (isCell (some (.ref GD))) := hC3
          replace hGD : Has g30 GD (isDct prog w (intDct lG2)) := hGD
          replace hLK : Has g30 LK (isLst (intValues ll)) := hLK
          have hM30 := k30.has hMg
          have hL30 := k30.has hLg
          have FC := fcells
          refine wpAny_execs_cons ?_
          refine wpAny_Return_some ?_
          refine Tuple_ ?_
          refine args_cons ?_ (by with_unfolding_all rfl)
          dsimp only
          refine lcomp_eval (cl := [(Str.ofString "modes", L + 1), (Str.ofString "links", L + 2), (Str.ofString "gained", L + 3)]) (by with_unfolding_all rfl) (by with_unfolding_all decide) (by with_unfolding_all rfl) (by with_unfolding_all decide) (by with_unfolding_all rfl) ?_ (by intro _; with_unfolding_all rfl)
          refine qfc ?_
          refine src_keys R.hh hma hM30 F30 N30 ?_
          intro it h31 tk31 hS31
          refine ⟨g30, _, [], _, _, (fun i _ ys => ∃ lt : List (Str × Tok), ys = strValues lt ∧ lt.map (·.1) = (List.range (min i 5)).map fun j => fmF ((16384 : Int) + (gs j : Int))), hS31, by omega, ⟨[], rfl, rfl⟩, ?_, ?_⟩
          · intro i v h32 tk32 g32 gI C u32 ys hi hv k32 kI hp hlen F32 N32
            obtain ⟨k, t, hk, rfl⟩ := hv
            rw [hlen8] at hi
            rw [hkM, List.getElem?_map, List.getElem?_range hi] at hk
            cases hk
            obtain ⟨lt, rfl, hlt⟩ := hp
            have kk := k32.trans kI
            have O32 := O30.keeps kk
            have hc1 := kk.has hC1
            have hc2 := kk.has hC2
            have hc3 := kk.has hC3
            have hMI := kk.has hM30
            have hLI := kk.has hL30
            have hGI := kk.has hGD
            refine test_one ?_
            refine wpAny_isTrue_Compare1 ?_ (by with_unfolding_all rfl)
            refine qlo ?_
            refine qfc ?_
            dsimp only
            refine notInDct hla (F32.keep.has hLI) ?_
            intro tk33
            by_cases h5 : i < 5
            · have hvn : valueAt (strDct lL) (ky i) = none := valueAt_none (by
                rw [hkL]
                intro q
                obtain ⟨j, hj, e⟩ := List.mem_map.mp q
                have hj := List.mem_range.mp hj
                have := G.inj (by omega) hi e
                omega)
              rw [hvn]
              obtain ⟨tmi, htmi⟩ := hMv i hi
              obtain ⟨tgi, htgi, _⟩ := hgl i hi
              refine wpAny_truthy_bool ?_
              dsimp only
              refine itb_t rfl ?_
              refine Call_ ?_ (by with_unfolding_all rfl)
              refine qgl (gn_filemode _) ?_
              refine qfn (kp_filemode _) ?_
              refine args_cons ?_ (by with_unfolding_all rfl)
              refine wpAny_BinOp ?_
              refine Call_ ?_ (by with_unfolding_all rfl)
              refine qgl (gn_S_IFMT _) ?_
              refine qfn (kp_S_IFMT _) ?_
              refine args_cons ?_ (by with_unfolding_all rfl)
              refine Subscript_ ?_
              refine qfc ?_
              refine qlo ?_
              refine itemDct (F32.keep.has hMI) htmi ?_
              intro tk34
              refine args_nil ?_
              refine ⟨Fm.keep (by assumption), ?_⟩
              refine ifmt_call (by assumption) (by assumption) (by assumption) (by walk_at "room") ?_; intro h' tk' t' F' N'
              refine Subscript_ ?_
              refine qfc ?_
              refine qlo ?_
              dsimp only
              refine itemDct (F'.keep.has hGI) htgi ?_
              intro tk35
              refine addI ?_; intro t' k'
              refine args_nil ?_
              refine ⟨Fm.keep (by assumption), ?_⟩
              dsimp only
              rw [md_ifmt h5 (G.r12 i h5)]
              refine filemode_call O32 F' N' (by walk_at "room") ?_
              intro h36 tk36 t36 F36 N36
              refine ⟨_, _, _, [], rfl, F36, N36, fun g5 _ _ => ⟨_, strValues_snoc, ?_⟩⟩
              rw [List.map_append, hlt, show min i 5 = i by omega, show min (i + 1) 5 = i + 1 by omega, List.range_succ, List.map_append]; rfl
            · obtain ⟨tli, htli⟩ := hLv i (by omega) hi
              rw [htli]
              refine wpAny_truthy_bool ?_
              dsimp only
              refine itb_f rfl ?_
              exact ⟨_, _, _, [], rfl, F32, N32, fun g5 _ _ => ⟨lt, rfl, by rw [hlt, show min i 5 = 5 by omega, show min (i + 1) 5 = 5 by omega]⟩⟩
          · intro TD h34 tk34 g34 ys k34 hp F34 N34
            rw [hlen8] at hp
            obtain ⟨lt, rfl, hlt⟩ := hp
            have kall := kT8.trans (kgg.trans (k30.trans k34))
            refine args_cons ?_ (by with_unfolding_all rfl)
            refine qlo ?_
            refine args_nil ?_
            refine newTup (by assumption) (by assumption) (by with_unfolding_all exact Nat.le_of_ble_eq_true rfl) ?_; intro a' h' F' N'
            dsimp only
            exact h _ _ _ TD LK lt ll gs ls (keeps_of (F'.weak kall)).sub (N'.get 0 rfl) (N'.get 1 rfl) (F'.keep.has (k34.has hLK)) (N'.fresh kall 0 rfl) (N'.fresh kall 1 rfl) hLKf hlt hll hI
        · obtain ⟨ys, last, rfl⟩ : ∃ ys last, xs = ys ++ [last] := ⟨xs.dropLast, xs.getLast hx, (List.dropLast_concat_getLast hx).symm⟩
          refine ite_t (by simp) ?_
          refine wpAny_execs_cons ?_
          refine Assign_Tuple ?_ (by with_unfolding_all rfl) (by with_unfolding_all rfl)
          refine Call_ ?_ (by with_unfolding_all rfl)
          refine qgl (gn_heappop _) ?_
          refine qfn (kp_heappop _) ?_
          refine args_cons ?_ (by with_unfolding_all rfl)
          refine qlo ?_
          refine args_nil ?_
          refine ⟨Fm.keep (by assumption), ?_⟩
          dsimp only
          refine heappop_spec Og F'.keep (N'.off 1 rfl) (by walk_at "room") (N'.get 1 rfl) (by rw [List.length_append, List.length_singleton] at hxl; omega) (fun i hi => F'.keep _ _ (hPr i hi)) ?_
          intro h14 tk14 k14 H14
          have F14 := F'.upd (N'.ne 1 rfl) (N'.off 1 rfl) k14
          have N14 := N'.upd 1 rfl k14 H14
          obtain ⟨⟨m, j⟩, es', hpe, hk, hp, hmax, hB'⟩ := hB.pop
          dsimp only at hk hp hmax
          have hmj : m ≤ 4095 ∧ j < 5 := bd3 (m, j) (hpe.mem_iff.mpr (.head _))
          obtain ⟨hm, hj5⟩ := hmj
          have hxt : h14.IsTuple (hfirst ys last).a #[.int (4095 - (m : Int)) (hfirst ys last).tk, .str (ky j) (hfirst ys last).tp] := by
            rw [← hk, ← hp]
            exact ⟨_, F14.keep _ _ (hPr _ mem_hfirst), rfl, 0, rfl⟩
          refine asg2 F14 N14 R.hh hxt ?_ (by with_unfolding_all rfl) (by with_unfolding_all rfl)
          clear F14 N14
          intro h' F' N'
          refine wpAny_assign_Name ?_
          refine qst ?_; intro h' tk' F' N'
          refine wpAny_assign_Name ?_
          refine qst ?_; intro h' tk' F' N'
          refine wpAny_execs_cons ?_
          refine wpAny_Expr ?_ (by with_unfolding_all rfl) (by with_unfolding_all rfl)
          refine callLst PySem.F.slot_list_append PySem.F.type_list_append ?_ (by with_unfolding_all rfl) (by with_unfolding_all rfl) (by with_unfolding_all rfl)
          refine qlo ?_
          refine ⟨_, _, rfl, Led.get (by assumption) 3 (by with_unfolding_all rfl), ?_⟩
          refine args_cons ?_ (by with_unfolding_all rfl)
          refine qlo ?_
          refine args_nil ?_
          dsimp only
          refine append_lst (N'.get 3 rfl) (by rw [intValues_len]; have := congrArg List.length hll; rw [List.length_map] at this; omega) ?_
          intro h15 H15 k15
          have F15 := F'.upd (N'.ne 3 rfl) (N'.off 3 rfl) k15
          have N15 := N'.upd 3 rfl k15 H15
          rw [intValues_snoc] at N15
          refine wpAny_execs_cons ?_
          refine wpAny_Assign_Name ?_ (by with_unfolding_all rfl)
          refine wpAny_BinOp ?_
          refine wpAny_BinOp ?_
          refine cst_int ?_; intro t' k'
          refine qlo ?_
          refine subI ?_; intro t' k'
          refine wpAny_BinOp ?_
          refine wpAny_BinOp ?_
          refine cst_int ?_; intro t' k'
          refine qlo ?_
          refine subI ?_; intro t' k'
          refine Subscript_ ?_
          refine qlc 4 ?_
          refine qlo ?_
          dsimp only
          rw [show (4095 : Int) - (4095 - (m : Int)) = (m : Int) by omega]
          have hgl := intAtK G.nd hG
          obtain ⟨tg0, hgv, hgi⟩ := hgl j (by omega)
          refine itemDct (N15.get 2 rfl) hgv ?_
          intro tk16
          refine andI ?_; intro t' k'
          rw [bitAndN]
          refine subI ?_; intro t' k'
          rw [show (m : Int) - ((m &&& gs j : Nat) : Int) = ((freshN (m, j) gs : Nat) : Int) by unfold freshN; dsimp only; have := Nat.and_le_left (n := m) (m := gs j); omega]
          generalize hf : freshN (m, j) gs = f
          refine qst ?_; intro h' tk' F' N'
          refine wpAny_execs_cons ?_
          refine wpAny_Assign_Subscript ?_ (by with_unfolding_all rfl)
          refine wpAny_BinOp ?_
          refine Subscript_ ?_
          refine qlc 4 ?_
          refine qlo ?_
          dsimp only
          obtain ⟨tg1, hgv1, hgi1⟩ := hgl j (by omega)
          refine itemDct (N'.get 2 rfl) hgv1 ?_
          intro tk17
          refine qlo ?_
          refine addI ?_; intro t' k'
          rw [show (gs j : Int) + (f : Int) = ((gs j + f : Nat) : Int) by push_cast; rfl]
          refine qlc 4 ?_
          refine qlo ?_
          dsimp only
          refine setDct (N'.get 2 rfl) (by rw [intDct_len]; have := congrArg List.length hG; simp at this; omega) ?_
          intro h18 tk18 H18 k18
          have F18 := F'.upd (N'.ne 2 rfl) (N'.off 2 rfl) k18
          have N18 := N'.upd 2 rfl k18 H18
          rw [stored_old (by rw [intDct_keys, keys_of hG, List.map_map]; exact G.nd) hgi1, intDct_set] at N18
          have hG3 : ∀ t, (lG2.set j (ky j, ((gs j + f : Nat) : Int), t)).map (fun p => (p.1, p.2.1)) = (List.range 8).map fun i => (ky i, if i = j then ((gs j + f : Nat) : Int) else (gs i : Int)) := fun t => gain_set hG (by omega)
          have hDg := (k11.trans (k13.trans kg)).has hD8
          have hMg := (k11.trans (k13.trans kg)).has hM8
          have hLg := (k11.trans (k13.trans kg)).has hL8
          refine wpAny_execs_cons ?_
          refine wpAny_For ?_ (by intro _; with_unfolding_all rfl)
          refine Subscript_ ?_
          refine qlo ?_
          refine qlo ?_
          dsimp only
          refine itemDct (F18.keep.has hDg) (valueAt_get (by rw [List.map_map]; exact G.nd) (i := j) (v := .ref (wa j)) (by rw [List.getElem?_map, List.getElem?_range (by omega)]; rfl)) ?_
          intro tk19
          obtain ⟨lG3, hlG3, N19⟩ : ∃ lG3 : List (Str × Int × Tok), lG3.map (fun p => (p.1, p.2.1)) = ((List.range 8).map fun i => (ky i, (updN gs (m, j) i : Int))) ∧
              Led g L h18 [(HP, isLst (refs (hrest ys last))), (GD, isDct prog w (intDct lG3)), (LK, isLst (intValues (ll ++ [(4095 - (m : Int), (hfirst ys last).tk)]))), (L + 3, isCell (some (.ref GD))), (L + 2, isCell (some (.ref la))), (L + 1, isCell (some (.ref ma)))] := by
            refine ⟨_, ?_, Led.tail N18⟩
            rw [hG3]
            refine List.map_congr_left fun i _ => ?_
            unfold updN
            rw [hf]
            by_cases hij : i = j
            · subst hij; simp
            · simp [hij]
          clear hG3 N18 N' N N15
          obtain ⟨u20, F20⟩ := F18.sel [(Str.ofString "fresh", .int (f : Int) _), (Str.ofString "path", .str (ky j) _), (Str.ofString "lacks", .ref LK), (Str.ofString "heap", .ref HP), (Str.ofString "within", .ref D)] (by with_unfolding_all rfl)
          have hWg := (k11.trans (k13.trans kg)).has (hW j (by omega))
          have hwsl : (strValues (ws j)).length = (wlN par j 8).length := by
            have := congrArg List.length (hws j (by omega))
            rw [List.length_map, List.length_map] at this
            unfold strValues; rw [List.length_map]; exact this
          refine for_list R.hh hWg.list (fun k g' ps led => FSt prog w L D HP GD LK la ma ky lG3 (ll ++ [(4095 - (m : Int), (hfirst ys last).tk)]) f j (es' ++ pushN go r f ((wlN par j 8).take k)) g' ps led) F20 N19 ⟨hrest ys last, _, _, rfl, rfl, fun i hi => hPr i (mem_hrest hi), by simpa [pushN] using hB'⟩ ?_ ?_
          · rintro k v h21 tk21 g21 gJ ps u21 led hk hv k21 kJ ⟨xs, tf, tp, rfl, rfl, hPx, hBx⟩ hd21 F21 N21
            rw [hwsl] at hk
            obtain ⟨i, hi⟩ : ∃ i, (wlN par j 8)[k]? = some i := ⟨_, List.getElem?_eq_getElem hk⟩
            obtain ⟨ts, hts⟩ := strValues_get (hws j (by omega)) (show ((wlN par j 8).map ky)[k]? = some (ky i) by rw [List.getElem?_map, hi]; rfl)
            rw [hts] at hv
            cases hv
            have him := List.mem_of_getElem? hi
            have hi8 : i < 8 ∧ i ≠ 0 ∧ par i = j := by
              unfold wlN at him
              simpa using him
            obtain ⟨hi8, hi0, hpj⟩ := hi8
            have kk := k21.trans kJ
            have OJ := Og.keeps kk
            have hMJ := kk.has hMg
            have hLJ := kk.has hLg
            refine wpAny_assign_Name ?_
            refine qst ?_; intro h' tk' F' N'
            refine seq_mid (fun s' => ∃ h tk u tf tp ts tq, s' = { s with heap := h, toks := tk } ∧ Fm gJ L h (ov [(Str.ofString "goal", .str (ky (go i)) tq), (Str.ofString "spot", .str (ky i) ts), (Str.ofString "fresh", .int (f : Int) tf), (Str.ofString "path", .str (ky j) tp), (Str.ofString "lacks", .ref LK), (Str.ofString "heap", .ref HP), (Str.ofString "within", .ref D)] u) ∧
              Led gJ L h [(HP, isLst (refs xs)), (GD, isDct prog w (intDct lG3)), (LK, isLst (intValues (ll ++ [(4095 - (m : Int), (hfirst ys last).tk)]))), (L + 3, isCell (some (.ref GD))), (L + 2, isCell (some (.ref la))), (L + 1, isCell (some (.ref ma)))]) ?_ ?_
            · obtain ⟨tmi, htmi⟩ := hMv i hi8
              refine wpAny_Assign_Name ?_ (by with_unfolding_all rfl)
              refine wpAny_IfExp ?_
              refine isTrue_plain ?_ (by with_unfolding_all rfl)
              refine Call_ ?_ (by with_unfolding_all rfl)
              refine qgl (gn_S_ISLNK _) ?_
              refine qfn (kp_S_ISLNK _) ?_
              refine args_cons ?_ (by with_unfolding_all rfl)
              refine Subscript_ ?_
              refine qlc 5 ?_
              refine qlo ?_
              dsimp only
              refine itemDct (F'.keep.has hMJ) htmi ?_
              intro tk23
              refine args_nil ?_
              refine ⟨Fm.keep (by assumption), ?_⟩
              refine islnk_call (by assumption) (by assumption) (by assumption) (by walk_at "room") ?_; intro h' tk' F' N'
              refine wpAny_truthy_bool ?_
              dsimp only
              have hzj := G.len j (by omega)
              by_cases h5 : 5 ≤ i
              · refine itb_t (md_lnk1 h5) ?_
                obtain ⟨tli, htli⟩ := hLv i h5 hi8
                have hzl := G.lvz i h5 hi8
                refine Call_ ?_ (by with_unfolding_all rfl)
                refine qgl (gn_normpath _) ?_
                refine qfn (kp_normpath _) ?_
                refine args_cons ?_ (by with_unfolding_all rfl)
                refine Call_ ?_ (by with_unfolding_all rfl)
                refine qgl (gn_join _) ?_
                refine qfn (kp_join _) ?_
                refine args_cons ?_ (by with_unfolding_all rfl)
                refine qlo ?_
                refine args_cons ?_ (by with_unfolding_all rfl)
                refine Subscript_ ?_
                refine qlc 4 ?_
                refine qlo ?_
                refine itemDct (F'.keep.has hLJ) htli ?_
                intro tk24
                refine args_nil ?_
                refine ⟨Fm.keep (by assumption), ?_⟩
                refine join_call (by assumption) (by assumption) (by assumption) (by walk_at "room") (by walk_at "size") ?_; intro h' tk' t' F' N'
                refine args_nil ?_
                refine ⟨Fm.keep (by assumption), ?_⟩
                dsimp only
                have hok := G.nok i h5 hi8
                have hnm := G.norm i h5 hi8
                rw [hpj] at hok hnm
                refine norm_call OJ F' N' (by walk_at "room") hok ?_
                intro h' tk' t' F' N'
                rw [hnm]
                refine qst ?_; intro h' tk' F' N'
                dsimp only
                exact ⟨rfl, _, _, _, _, _, _, _, rfl, F', N'⟩
              · refine itb_f (md_lnk0 (by omega) (G.r12 i (by omega))) ?_
                have hgo := G.goF i (by omega)
                refine qlo ?_
                refine qst ?_; intro h' tk' F' N'
                dsimp only
                rw [hgo]
                exact ⟨rfl, _, _, _, _, _, _, _, rfl, F', N'⟩
            · rintro s' ⟨h22, tk22, u22, tf, tp, ts, tq, rfl, F22, N22⟩
              have hgo5 := G.go5 i hi8
              obtain ⟨tmg, htmg⟩ := hMv (go i) (by omega)
              refine wpAny_execs_cons ?_
              refine wpAny_Assign_Name ?_ (by with_unfolding_all rfl)
              refine wpAny_BinOp ?_
              refine qlo ?_
              refine Call_ ?_ (by with_unfolding_all rfl)
              refine qgl (gn_S_IMODE _) ?_
              refine qfn (kp_S_IMODE _) ?_
              refine args_cons ?_ (by with_unfolding_all rfl)
              refine callDct PySem.F.slot_dict_get PySem.F.type_dict_get ?_ (by with_unfolding_all rfl) (by with_unfolding_all rfl) (by with_unfolding_all rfl)
              refine qlc 5 ?_
              dsimp only
              refine ⟨_, _, rfl, F22.keep.has hMJ, ?_⟩
              refine args_cons ?_ (by with_unfolding_all rfl)
              refine qlo ?_
              refine args_cons ?_ (by with_unfolding_all rfl)
              refine cst_int ?_; intro t' k'
              refine args_nil ?_
              dsimp only
              refine getDct hma (F22.keep.has hMJ) htmg ?_
              intro tk25
              refine args_nil ?_
              refine ⟨Fm.keep (by assumption), ?_⟩
              refine imode_call (by assumption) (by assumption) (by assumption) (by walk_at "room") ?_; intro h' tk' t' F' N'
              rw [md_imode hgo5 (G.r12 _ hgo5)]
              refine andI ?_; intro t' k'
              rw [bitAndN]
              refine qst ?_; intro h' tk' F' N'
              refine wpAny_execs_cons ?_
              refine wpAny_If ?_
              refine wpAny_isTrue_Compare1 ?_ (by with_unfolding_all rfl)
              refine qlo ?_
              refine cst_int ?_; intro t' k'
              refine P.gt_int ?_
              refine wpAny_truthy_bool ?_
              dsimp only
              have hpt : pushN go r f ((wlN par j 8).take (k + 1)) = pushN go r f ((wlN par j 8).take k) ++ (if 0 < f &&& r (go i) then [(f &&& r (go i), go i)] else []) := by
                unfold pushN
                rw [List.take_add_one, hi, List.filterMap_append]
                by_cases hq : 0 < f &&& r (go i)
                · simp [hq]
                · simp [hq]
              have hll8 : f &&& r (go i) ≤ 4095 := by have := Nat.and_le_right (n := f) (m := r (go i)); have := G.r12 _ hgo5; omega
              by_cases hq : 0 < f &&& r (go i)
              · rw [if_pos hq] at hpt
                refine itb_t (by simpa using hq) ?_
                refine wpAny_execs_cons ?_
                refine wpAny_Expr ?_ (by with_unfolding_all rfl) (by with_unfolding_all rfl)
                refine Call_ ?_ (by with_unfolding_all rfl)
                refine qgl (gn_heappush _) ?_
                refine qfn (kp_heappush _) ?_
                refine args_cons ?_ (by with_unfolding_all rfl)
                refine qlo ?_
                refine args_cons ?_ (by with_unfolding_all rfl)
                refine Tuple_ ?_
                refine args_cons ?_ (by with_unfolding_all rfl)
                refine wpAny_BinOp ?_
                refine cst_int ?_; intro t' k'
                refine qlo ?_
                refine subI ?_; intro t' k'
                refine args_cons ?_ (by with_unfolding_all rfl)
                refine qlo ?_
                refine args_nil ?_
                refine newTup (by assumption) (by assumption) (by with_unfolding_all exact Nat.le_of_ble_eq_true rfl) ?_; intro a' h' F' N'
                refine args_nil ?_
                refine ⟨Fm.keep (by assumption), ?_⟩
                dsimp only
                have hlx : xs.length ≤ 2000000 := by
                  have h1 := hBx.len
                  have h2 := hpe.length_eq
                  have h3 : (pushN go r f ((wlN par j 8).take k)).length ≤ 8 := by
                    unfold pushN
                    refine Nat.le_trans (List.length_filterMap_le _ _) ?_
                    have h4 : (wlN par j 8).length ≤ 8 := by unfold wlN; exact Nat.le_trans (List.length_filter_le _ _) (by simp)
                    rw [List.length_take]; omega
                  rw [List.length_append] at h1
                  rw [List.length_cons] at h2
                  omega
                refine heappush_spec (it := ⟨a', 4095 - ((f &&& r (go i) : Nat) : Int), _, ky (go i), _⟩) OJ F'.keep (N'.off 1 rfl) (by walk_at "room") (N'.get 1 rfl) (by omega) (fun i hi => F'.keep _ _ (kJ _ _ (hPx i hi))) (N'.get 0 rfl).tup ?_
                intro h27 tk27 k27 H27
                have F27 := F'.upd (N'.ne 1 rfl) (N'.off 1 rfl) k27
                have N27 := N'.upd 1 rfl k27 H27
                refine wpAny_execs_nil ?_
                refine wpAny_execs_nil ?_
                dsimp only
                obtain ⟨u28, F28⟩ := F27.sel [(Str.ofString "fresh", .int (f : Int) tf), (Str.ofString "path", .str (ky j) tp), (Str.ofString "lacks", .ref LK), (Str.ofString "heap", .ref HP), (Str.ofString "within", .ref D)] (by with_unfolding_all rfl)
                refine ⟨_, _, _, u28, [_], _, rfl, F28, N27, rfl, fun g2 k2 q2 => ⟨_, tf, tp, rfl, rfl, fun y hy => ?_, ?_⟩⟩
                · rcases mem_hpush hy with rfl | hy
                  · exact (q2 _ (.head _)).tup
                  · exact k2 _ _ (hPx y hy)
                · rw [hpt, ← List.append_assoc]
                  exact hBx.push rfl rfl
              · rw [if_neg hq, List.append_nil] at hpt
                refine itb_f (by simpa using hq) ?_
                refine wpAny_execs_nil ?_
                refine wpAny_execs_nil ?_
                dsimp only
                obtain ⟨u26, F26⟩ := F'.sel [(Str.ofString "fresh", .int (f : Int) tf), (Str.ofString "path", .str (ky j) tp), (Str.ofString "lacks", .ref LK), (Str.ofString "heap", .ref HP), (Str.ofString "within", .ref D)] (by with_unfolding_all rfl)
                exact ⟨_, _, _, u26, [], _, rfl, F26, N', rfl, fun g2 k2 _ => ⟨xs, tf, tp, rfl, rfl, fun i hi => k2 _ _ (hPx i hi), by rw [hpt]; exact hBx⟩⟩
          · rintro h21 tk21 g21 ps u21 led k21 ⟨xs, tf, tp, rfl, rfl, hPx, hBx⟩ hd21 F21 N21
            rw [hwsl, List.take_length] at hBx
            refine wpAny_execs_nil ?_
            refine wpAny_execs_nil ?_
            dsimp only
            obtain ⟨u22, F22⟩ := F21.sel [(Str.ofString "lacks", .ref LK), (Str.ofString "heap", .ref HP), (Str.ofString "within", .ref D)] (by with_unfolding_all rfl)
            have htu := PL.turn es gs ls (m, j) es' hI hpe hmax
            rw [hf] at htu
            exact ⟨_, htu.2, g21, h21, tk21, u22, xs, lG3, _, _, updN gs (m, j), _, rfl, ⟨kg.trans k21, F22, N21, hPx, hlG3⟩, hBx, htu.1, by rw [List.map_append, hll]; rfl, rfl⟩
end
end
/-! PlainB -/
section
def sub4 (gs : Nat → Nat) : Nat := (4095 - gs 0) + (4095 - gs 1) + (4095 - gs 2) + (4095 - gs 3) + (4095 - gs 4)
def muN (es : List (Nat × Nat)) (gs : Nat → Nat) : Nat := es.length + 8 * sub4 gs
def hasB (n b : Nat) : Prop := n.testBit b = true
/-- a set of rights for each folder that the steps do not lead out of -/
structure Closed (par go r R : Nat → Nat) : Prop where
  root : ∀ b, hasB (r 0) b → hasB (R 0) b
  step : ∀ p, p < 5 → ∀ i, i ∈ wlN par p 8 → ∀ b, hasB (R p) b → hasB (r (go i)) b → hasB (R (go i)) b
structure InvN (par go r R : Nat → Nat) (es : List (Nat × Nat)) (gs : Nat → Nat) (ls : List Int) : Prop where
  a : ∀ e ∈ es, e.1 ≤ 4095 ∧ e.2 < 5 ∧ ∀ b, hasB e.1 b → hasB (R e.2) b
  g : ∀ j, gs j ≤ 4095 ∧ ∀ b, hasB (gs j) b → hasB (R j) b
  c : ∀ p, p < 5 → ∀ i, i ∈ wlN par p 8 → ∀ b, hasB (gs p) b → hasB (r (go i)) b → hasB (gs (go i)) b ∨ ∃ e ∈ es, e.2 = go i ∧ hasB e.1 b
  d : ∀ b, hasB (r 0) b → hasB (gs 0) b ∨ ∃ e ∈ es, e.2 = 0 ∧ hasB e.1 b
  s : ls.Pairwise (· ≤ ·) ∧ ∀ l ∈ ls, ∀ e ∈ es, l ≤ 4095 - (e.1 : Int)
  f : ls.length + muN es gs ≤ 170000
theorem hasB_or {a b i : Nat} : hasB (a ||| b) i ↔ hasB a i ∨ hasB b i := by unfold hasB; rw [Nat.testBit_or]; simp
theorem hasB_and {a b i : Nat} : hasB (a &&& b) i ↔ hasB a i ∧ hasB b i := by unfold hasB; rw [Nat.testBit_and]; simp
theorem hasB_fresh {m g i : Nat} : hasB (m - (m &&& g)) i ↔ hasB m i ∧ ¬ hasB g i := by unfold hasB; rw [and_sub_bit]; simp
theorem hasB_pos {n b : Nat} (h : hasB n b) : 0 < n := by
  rcases Nat.eq_zero_or_pos n with e | e
  · subst e; unfold hasB at h; rw [Nat.zero_testBit] at h; cases h
  · exact e
theorem updN_or (gs : Nat → Nat) (m j i : Nat) : updN gs (m, j) i = if i = j then gs i ||| m else gs i := by
  unfold updN freshN
  by_cases h : i = j
  · subst h; rw [if_pos rfl, if_pos rfl]; exact add_fresh m (gs i)
  · rw [if_neg h, if_neg h]
theorem wlN_len (par : Nat → Nat) (p : Nat) : (wlN par p 8).length ≤ 7 := by
  have : (wlN par p 8) = ((List.range 7).map (· + 1)).filter fun i => decide (i ≠ 0) && decide (par i = p) := by
    unfold wlN
    rw [show List.range 8 = 0 :: (List.range 7).map (· + 1) from rfl]
    rw [List.filter_cons, if_neg (by simp)]
  rw [this]
  exact Nat.le_trans (List.length_filter_le _ _) (by simp)
theorem sub4_le {gs gs' : Nat → Nat} {j : Nat} (hj : j < 5) (h : ∀ i, i ≠ j → gs' i = gs i) (h1 : gs j ≤ gs' j) (h2 : gs' j ≤ 4095) : sub4 gs' + (gs' j - gs j) = sub4 gs := by
  have k : (4095 - gs' j) + (gs' j - gs j) = 4095 - gs j := by omega
  unfold sub4
  rcases cases5 j hj with rfl | rfl | rfl | rfl | rfl
  · rw [h 1 (by decide), h 2 (by decide), h 3 (by decide), h 4 (by decide)]; clear h h1 h2 hj; generalize 4095 - gs' 0 = p at *; generalize gs' 0 - gs 0 = q at *; generalize 4095 - gs 0 = r at *; generalize 4095 - gs 1 = x1 at *; generalize 4095 - gs 2 = x2 at *; generalize 4095 - gs 3 = x3 at *; generalize 4095 - gs 4 = x4 at *; omega
  · rw [h 0 (by decide), h 2 (by decide), h 3 (by decide), h 4 (by decide)]; clear h h1 h2 hj; generalize 4095 - gs' 1 = p at *; generalize gs' 1 - gs 1 = q at *; generalize 4095 - gs 1 = r at *; generalize 4095 - gs 0 = x0 at *; generalize 4095 - gs 2 = x2 at *; generalize 4095 - gs 3 = x3 at *; generalize 4095 - gs 4 = x4 at *; omega
  · rw [h 0 (by decide), h 1 (by decide), h 3 (by decide), h 4 (by decide)]; clear h h1 h2 hj; generalize 4095 - gs' 2 = p at *; generalize gs' 2 - gs 2 = q at *; generalize 4095 - gs 2 = r at *; generalize 4095 - gs 0 = x0 at *; generalize 4095 - gs 1 = x1 at *; generalize 4095 - gs 3 = x3 at *; generalize 4095 - gs 4 = x4 at *; omega
  · rw [h 0 (by decide), h 1 (by decide), h 2 (by decide), h 4 (by decide)]; clear h h1 h2 hj; generalize 4095 - gs' 3 = p at *; generalize gs' 3 - gs 3 = q at *; generalize 4095 - gs 3 = r at *; generalize 4095 - gs 0 = x0 at *; generalize 4095 - gs 1 = x1 at *; generalize 4095 - gs 2 = x2 at *; generalize 4095 - gs 4 = x4 at *; omega
  · rw [h 0 (by decide), h 1 (by decide), h 2 (by decide), h 3 (by decide)]; clear h h1 h2 hj; generalize 4095 - gs' 4 = p at *; generalize gs' 4 - gs 4 = q at *; generalize 4095 - gs 4 = r at *; generalize 4095 - gs 0 = x0 at *; generalize 4095 - gs 1 = x1 at *; generalize 4095 - gs 2 = x2 at *; generalize 4095 - gs 3 = x3 at *; omega
theorem plainN {par go r R : Nat → Nat} (hgo : ∀ i, i < 8 → go i < 5) (hr : ∀ j, j < 5 → r j < 4096) (C : Closed par go r R) : Plain par go r (InvN par go r R) muN where
  init := by
    refine ⟨?_, ?_, ?_, ?_, ?_, ?_⟩
    · intro e he
      rw [List.mem_singleton.mp he]
      have := hr 0 (by decide)
      exact ⟨by dsimp only; omega, Nat.zero_lt_succ 4, C.root⟩
    · intro j
      exact ⟨Nat.zero_le _, fun b h => absurd (hasB_pos h) (Nat.lt_irrefl _)⟩
    · intro p hp i hi b h
      exact absurd (hasB_pos h) (Nat.lt_irrefl _)
    · intro b h
      exact Or.inr ⟨_, .head _, rfl, h⟩
    · exact ⟨.nil, fun l hl => nomatch hl⟩
    · unfold muN sub4; simp
  bound := by
    intro es gs ls I
    have := I.f
    unfold muN at this
    exact ⟨by omega, by omega, fun e he => ⟨(I.a e he).1, (I.a e he).2.1⟩, fun j => (I.g j).1⟩
  turn := by
    rintro es gs ls ⟨m, j⟩ es' I hp hmax
    dsimp only at hmax
    have hin : ∀ e, e ∈ es ↔ e = (m, j) ∨ e ∈ es' := fun e => by rw [hp.mem_iff, List.mem_cons]
    obtain ⟨hm, hj, hmR⟩ := I.a (m, j) ((hin _).mpr (Or.inl rfl))
    dsimp only at hm hj hmR
    have hu := updN_or gs m j
    have huj : updN gs (m, j) j = gs j ||| m := by rw [hu, if_pos rfl]
    have hun : ∀ i, i ≠ j → updN gs (m, j) i = gs i := fun i h => by rw [hu, if_neg h]
    have hmono : ∀ i b, hasB (gs i) b → hasB (updN gs (m, j) i) b := fun i b h => by
      rw [hu]
      split
      · exact hasB_or.mpr (Or.inl h)
      · exact h
    have hf : freshN (m, j) gs = m - (m &&& gs j) := rfl
    generalize hF : freshN (m, j) gs = F at hf ⊢
    have hFm : F ≤ m := by rw [hf]; omega
    have hpush : ∀ e, e ∈ pushN go r F (wlN par j 8) ↔ ∃ i, i ∈ wlN par j 8 ∧ 0 < F &&& r (go i) ∧ e = (F &&& r (go i), go i) := fun e => by
      unfold pushN
      rw [List.mem_filterMap]
      constructor
      · rintro ⟨i, hi, q⟩
        by_cases h0 : 0 < F &&& r (go i)
        · rw [if_pos h0] at q; exact ⟨i, hi, h0, (Option.some.inj q).symm⟩
        · rw [if_neg h0] at q; cases q
      · rintro ⟨i, hi, h0, rfl⟩
        exact ⟨i, hi, by rw [if_pos h0]⟩
    have hw8 : ∀ p i, i ∈ wlN par p 8 → i < 8 := fun p i hi => by unfold wlN at hi; simpa using (List.mem_range.mp (List.mem_filter.mp hi).1)
    have hle : gs j ||| m ≤ 4095 := by
      have h1 := (I.g j).1
      have := Nat.or_lt_two_pow (x := gs j) (y := m) (n := 12) (by omega) (by omega)
      omega
    have hgj : gs j + F = gs j ||| m := by rw [hf]; exact add_fresh m (gs j)
    have hlen := hp.length_eq
    rw [List.length_cons] at hlen
    have hPl : F = 0 → pushN go r F (wlN par j 8) = [] := fun h0 => by
      refine List.eq_nil_iff_forall_not_mem.mpr fun e he => ?_
      obtain ⟨i, _, h1, _⟩ := (hpush e).mp he
      rw [h0, Nat.zero_and] at h1
      exact Nat.lt_irrefl _ h1
    have hPn : (pushN go r F (wlN par j 8)).length ≤ 7 := Nat.le_trans (List.length_filterMap_le _ _) (wlN_len par j)
    have hsub := sub4_le (gs := gs) (gs' := updN gs (m, j)) hj hun (by rw [huj, ← hgj]; omega) (by rw [huj]; exact hle)
    rw [huj] at hsub
    have hmu : muN (es' ++ pushN go r F (wlN par j 8)) (updN gs (m, j)) < muN es gs := by
      unfold muN
      rw [List.length_append]
      by_cases h0 : F = 0
      · rw [hPl h0, List.length_nil]; omega
      · omega
    refine ⟨⟨?_, ?_, ?_, ?_, ?_, ?_⟩, hmu⟩
    · intro e he
      rcases List.mem_append.mp he with he | he
      · exact I.a e ((hin e).mpr (Or.inr he))
      · obtain ⟨i, hi, h0, rfl⟩ := (hpush e).mp he
        refine ⟨Nat.le_trans Nat.and_le_left (Nat.le_trans hFm hm), hgo i (hw8 _ _ hi), fun b hb => ?_⟩
        obtain ⟨h1, h2⟩ := hasB_and.mp hb
        rw [hf] at h1
        exact C.step j hj i hi b (hmR b (hasB_fresh.mp h1).1) h2
    · intro i
      by_cases hij : i = j
      · subst hij
        rw [huj]
        refine ⟨hle, fun b hb => ?_⟩
        rcases hasB_or.mp hb with h | h
        · exact (I.g i).2 b h
        · exact hmR b h
      · rw [hun i hij]; exact I.g i
    · intro p hp5 i hi b hb hrb
      have old : hasB (gs p) b → hasB (updN gs (m, j) (go i)) b ∨ ∃ e ∈ es' ++ pushN go r F (wlN par j 8), e.2 = go i ∧ hasB e.1 b := fun h => by
        rcases I.c p hp5 i hi b h hrb with q | ⟨e, he, e2, hb2⟩
        · exact Or.inl (hmono _ _ q)
        · rcases (hin e).mp he with rfl | he
          · dsimp only at e2 hb2
            rw [← e2, huj]
            exact Or.inl (hasB_or.mpr (Or.inr hb2))
          · exact Or.inr ⟨e, List.mem_append_left _ he, e2, hb2⟩
      by_cases hpj : p = j
      · subst hpj
        rw [huj] at hb
        by_cases hg : hasB (gs p) b
        · exact old hg
        · have hmb := (hasB_or.mp hb).resolve_left hg
          have hFb : hasB F b := by rw [hf]; exact hasB_fresh.mpr ⟨hmb, hg⟩
          have hFr := hasB_and.mpr ⟨hFb, hrb⟩
          exact Or.inr ⟨_, List.mem_append_right _ ((hpush _).mpr ⟨i, hi, hasB_pos hFr, rfl⟩), rfl, hFr⟩
      · rw [hun p hpj] at hb
        exact old hb
    · intro b hb
      rcases I.d b hb with q | ⟨e, he, e2, hb2⟩
      · exact Or.inl (hmono _ _ q)
      · rcases (hin e).mp he with rfl | he
        · dsimp only at e2 hb2
          subst e2
          rw [huj]
          exact Or.inl (hasB_or.mpr (Or.inr hb2))
        · exact Or.inr ⟨e, List.mem_append_left _ he, e2, hb2⟩
    · obtain ⟨s1, s2⟩ := I.s
      have hlm : ∀ l ∈ ls, l ≤ 4095 - (m : Int) := fun l hl => s2 l hl (m, j) ((hin _).mpr (Or.inl rfl))
      have hem : ∀ e ∈ es' ++ pushN go r F (wlN par j 8), e.1 ≤ m := fun e he => by
        rcases List.mem_append.mp he with he | he
        · exact hmax e he
        · obtain ⟨i, _, _, rfl⟩ := (hpush e).mp he
          exact Nat.le_trans Nat.and_le_left hFm
      refine ⟨List.pairwise_append.mpr ⟨s1, List.pairwise_singleton _ _, fun l hl l2 hl2 => by rw [List.mem_singleton.mp hl2]; exact hlm l hl⟩, fun l hl e he => ?_⟩
      have h1 := hem e he
      rcases List.mem_append.mp hl with hl | hl
      · have := hlm l hl; omega
      · rw [List.mem_singleton.mp hl]; dsimp only; omega
    · have := I.f
      show (ls ++ [_]).length + muN (es' ++ pushN go r F (wlN par j 8)) (updN gs (m, j)) ≤ 170000
      rw [List.length_append, List.length_singleton]
      omega
end
/-! PlainC -/
section
def atN (hv : List Nat) (j : Nat) : Nat := hv[j]?.getD 0
theorem atN_step (r : Nat → Nat) (hv : List Nat) (p : Nat × Nat) (j : Nat) : atN (stepR r hv p) j = if p.2 = j ∧ p.2 < hv.length then atN hv j ||| (atN hv p.1 &&& r j) else atN hv j := by
  unfold atN stepR
  rw [List.getElem?_set]
  by_cases h : p.2 = j
  · subst h
    by_cases h2 : p.2 < hv.length
    · simp [h2]
    · simp [h2]
  · simp [h]
theorem step_mono {r : Nat → Nat} {hv : List Nat} {p : Nat × Nat} {j b : Nat} (h : hasB (atN hv j) b) : hasB (atN (stepR r hv p) j) b := by
  rw [atN_step]
  split
  · exact hasB_or.mpr (Or.inl h)
  · exact h
theorem round_mono {r : Nat → Nat} : ∀ {st : List (Nat × Nat)} {hv : List Nat} {j b : Nat}, hasB (atN hv j) b → hasB (atN (roundR r st hv) j) b
  | [], _, _, _, h => h
  | p :: st, hv, j, b, h => by
    show hasB (atN (roundR r st (stepR r hv p)) j) b
    exact round_mono (step_mono h)
theorem round_edge {r : Nat → Nat} : ∀ {st : List (Nat × Nat)} {hv : List Nat} {p q b : Nat}, (p, q) ∈ st → q < hv.length → hasB (atN hv p) b → hasB (r q) b → hasB (atN (roundR r st hv) q) b
  | e :: st, hv, p, q, b, h, hq, hp, hr => by
    show hasB (atN (roundR r st (stepR r hv e)) q) b
    rcases List.mem_cons.mp h with h | h
    · subst h
      refine round_mono ?_
      rw [atN_step, if_pos ⟨rfl, hq⟩]
      exact hasB_or.mpr (Or.inr (hasB_and.mpr ⟨hp, hr⟩))
    · exact round_edge h (by rw [stepR_len]; exact hq) (step_mono hp) hr
theorem reach_mono {r : Nat → Nat} {st : List (Nat × Nat)} {j b : Nat} : ∀ {n m : Nat}, n ≤ m → hasB (atN (reachN r st n) j) b → hasB (atN (reachN r st m) j) b := by
  intro n m h
  induction h with
  | refl => exact id
  | step _ ih => exact fun q => round_mono (ih q)
/-- what no step leads out of holds all that is reached -/
theorem reach_least {r G : Nat → Nat} {st : List (Nat × Nat)} (h0 : ∀ b, hasB (r 0) b → hasB (G 0) b) (hs : ∀ p q, (p, q) ∈ st → ∀ b, hasB (G p) b → hasB (r q) b → hasB (G q) b) : ∀ n j b, hasB (atN (reachN r st n) j) b → hasB (G j) b := by
  have hr : ∀ (l : List (Nat × Nat)), (∀ p ∈ l, p ∈ st) → ∀ hv : List Nat, (∀ j b, hasB (atN hv j) b → hasB (G j) b) → ∀ j b, hasB (atN (roundR r l hv) j) b → hasB (G j) b := by
    intro l
    induction l with
    | nil => exact fun _ _ h => h
    | cons p l ih =>
      intro hl hv h
      refine ih (fun q hq => hl q (.tail _ hq)) (stepR r hv p) fun j b hb => ?_
      rw [atN_step] at hb
      split at hb
      · rename_i hpj
        rcases hasB_or.mp hb with q | q
        · exact h j b q
        · obtain ⟨q1, q2⟩ := hasB_and.mp q
          exact hs p.1 j (by rw [← hpj.1]; exact hl p (.head _)) b (h _ _ q1) q2
      · exact h j b hb
  intro n
  induction n with
  | zero =>
    intro j b hb
    match j with
    | 0 => exact h0 b hb
    | 1 => exact absurd (hasB_pos hb) (Nat.lt_irrefl _)
    | 2 => exact absurd (hasB_pos hb) (Nat.lt_irrefl _)
    | 3 => exact absurd (hasB_pos hb) (Nat.lt_irrefl _)
    | 4 => exact absurd (hasB_pos hb) (Nat.lt_irrefl _)
    | j + 5 => exact absurd (hasB_pos hb) (by unfold atN reachN; simp)
  | succ n ih => exact hr st (fun _ h => h) _ ih
open Classical in
noncomputable def cB (hv : List Nat) (b j : Nat) : Nat := if hasB (atN hv j) b then 1 else 0
noncomputable def cntB (hv : List Nat) (b : Nat) : Nat := cB hv b 0 + cB hv b 1 + cB hv b 2 + cB hv b 3 + cB hv b 4
theorem cB_le (hv : List Nat) (b j : Nat) : cB hv b j ≤ 1 := by unfold cB; split <;> omega
theorem cB_mono {hv hv' : List Nat} {b : Nat} (h : ∀ j, hasB (atN hv j) b → hasB (atN hv' j) b) (j : Nat) : cB hv b j ≤ cB hv' b j := by
  unfold cB
  by_cases q : hasB (atN hv j) b
  · rw [if_pos q, if_pos (h j q)]; exact Nat.le_refl _
  · rw [if_neg q]; omega
theorem reach_closed {r : Nat → Nat} {st : List (Nat × Nat)} (hst : ∀ p q, (p, q) ∈ st → p < 5 ∧ q < 5) : ∀ p q, (p, q) ∈ st → ∀ b, hasB (atN (reachN r st 5) p) b → hasB (r q) b → hasB (atN (reachN r st 5) q) b := by
  intro p q hpq b hp hr
  refine Classical.byContradiction fun hq => ?_
  -- at no earlier stage is it closed
  have step : ∀ n, n ≤ 5 → ∃ p q, (p, q) ∈ st ∧ hasB (atN (reachN r st n) p) b ∧ hasB (r q) b ∧ ¬ hasB (atN (reachN r st n) q) b := by
    intro n hn
    refine Classical.byContradiction fun hno => ?_
    have hcl : ∀ p q, (p, q) ∈ st → hasB (atN (reachN r st n) p) b → hasB (r q) b → hasB (atN (reachN r st n) q) b := fun p q h1 h2 h3 => Classical.byContradiction fun h4 => hno ⟨p, q, h1, h2, h3, h4⟩
    have hr2 : ∀ (l : List (Nat × Nat)), (∀ e ∈ l, e ∈ st) → ∀ hv : List Nat, (∀ j, hasB (atN hv j) b → hasB (atN (reachN r st n) j) b) → ∀ j, hasB (atN (roundR r l hv) j) b → hasB (atN (reachN r st n) j) b := by
      intro l
      induction l with
      | nil => exact fun _ _ h => h
      | cons e l ih =>
        intro hl hv h
        refine ih (fun q hq => hl q (.tail _ hq)) (stepR r hv e) fun j hb => ?_
        rw [atN_step] at hb
        split at hb
        · rename_i hpj
          rcases hasB_or.mp hb with q | q
          · exact h j q
          · obtain ⟨q1, q2⟩ := hasB_and.mp q
            exact hcl e.1 j (by rw [← hpj.1]; exact hl e (.head _)) (h _ q1) q2
        · exact h j hb
    have hall : ∀ k j, hasB (atN (reachN r st (n + k)) j) b → hasB (atN (reachN r st n) j) b := by
      intro k
      induction k with
      | zero => exact fun _ h => h
      | succ k ih => exact hr2 st (fun _ h => h) _ ih
    have h5 : n + (5 - n) = 5 := by omega
    have hp' := hall (5 - n) p (by rw [h5]; exact hp)
    exact hq (reach_mono hn (hcl p q hpq hp' hr))
  have grow : ∀ n, n ≤ 4 → cntB (reachN r st n) b + 1 ≤ cntB (reachN r st (n + 1)) b := by
    intro n hn
    obtain ⟨p, q, h1, h2, h3, h4⟩ := step n (by omega)
    have hm := cB_mono (hv := reachN r st n) (hv' := reachN r st (n + 1)) (b := b) fun j h => round_mono h
    have hq5 := (hst p q h1).2
    have hnew : hasB (atN (reachN r st (n + 1)) q) b := round_edge h1 (by rw [reachN_len]; exact hq5) h2 h3
    have e0 : cB (reachN r st n) b q = 0 := by unfold cB; rw [if_neg h4]
    have e1 : cB (reachN r st (n + 1)) b q = 1 := by unfold cB; rw [if_pos hnew]
    have m0 := hm 0
    have m1 := hm 1
    have m2 := hm 2
    have m3 := hm 3
    have m4 := hm 4
    have e : q = 0 ∨ q = 1 ∨ q = 2 ∨ q = 3 ∨ q = 4 := by omega
    unfold cntB
    rcases e with rfl | rfl | rfl | rfl | rfl <;> omega
  have hstart : 1 ≤ cntB (reachN r st 0) b := by
    obtain ⟨p, q, h1, h2, _, _⟩ := step 0 (by omega)
    have hp5 := (hst p q h1).1
    have e1 : cB (reachN r st 0) b p = 1 := by unfold cB; rw [if_pos h2]
    have e : p = 0 ∨ p = 1 ∨ p = 2 ∨ p = 3 ∨ p = 4 := by omega
    unfold cntB
    rcases e with rfl | rfl | rfl | rfl | rfl <;> omega
  have g0 : cntB (reachN r st 0) b + 1 ≤ cntB (reachN r st 1) b := grow 0 (by omega)
  have g1 : cntB (reachN r st 1) b + 1 ≤ cntB (reachN r st 2) b := grow 1 (by omega)
  have g2 : cntB (reachN r st 2) b + 1 ≤ cntB (reachN r st 3) b := grow 2 (by omega)
  have g3 : cntB (reachN r st 3) b + 1 ≤ cntB (reachN r st 4) b := grow 3 (by omega)
  have g4 : cntB (reachN r st 4) b + 1 ≤ cntB (reachN r st 5) b := grow 4 (by omega)
  have c0 := cB_le (reachN r st 5) b 0
  have c1 := cB_le (reachN r st 5) b 1
  have c2 := cB_le (reachN r st 5) b 2
  have c3 := cB_le (reachN r st 5) b 3
  have c4 := cB_le (reachN r st 5) b 4
  have : cntB (reachN r st 5) b ≤ 5 := by unfold cntB; omega
  omega
end
/-! PlainD -/
section
theorem mem_wlN {par : Nat → Nat} {p i : Nat} : i ∈ wlN par p 8 ↔ 0 < i ∧ i < 8 ∧ par i = p := by
  unfold wlN
  rw [List.mem_filter, List.mem_range]
  simp
  omega
theorem plain_closed {par go r : Nat → Nat} {st : List (Nat × Nat)} (hpar : ∀ i, i < 8 → par i < 5) (hgo : ∀ i, i < 8 → go i < 5) (hst : ∀ p q, (p, q) ∈ st ↔ ∃ i, 0 < i ∧ i < 8 ∧ par i = p ∧ go i = q) : Closed par go r (atN (reachN r st 5)) := by
  have h5 : ∀ p q, (p, q) ∈ st → p < 5 ∧ q < 5 := fun p q h => by
    obtain ⟨i, _, h2, rfl, rfl⟩ := (hst p q).mp h
    exact ⟨hpar i h2, hgo i h2⟩
  refine ⟨fun b h => reach_mono (n := 0) (by omega) h, fun p _ i hi b h1 h2 => ?_⟩
  obtain ⟨a1, a2, a3⟩ := mem_wlN.mp hi
  exact reach_closed h5 p (go i) ((hst _ _).mpr ⟨i, a1, a2, a3, rfl⟩) b h1 h2
theorem plain_end {par go r : Nat → Nat} {st : List (Nat × Nat)} (hpar : ∀ i, i < 8 → par i < 5) (hst : ∀ p q, (p, q) ∈ st ↔ ∃ i, 0 < i ∧ i < 8 ∧ par i = p ∧ go i = q) {gs : Nat → Nat} {ls : List Int} (I : InvN par go r (atN (reachN r st 5)) [] gs ls) : (∀ j, gs j = atN (reachN r st 5) j) ∧ ls.Pairwise (· ≤ ·) := by
  refine ⟨fun j => Nat.eq_of_testBit_eq fun b => ?_, I.s.1⟩
  have h1 : hasB (gs j) b → hasB (atN (reachN r st 5) j) b := (I.g j).2 b
  have h2 : hasB (atN (reachN r st 5) j) b → hasB (gs j) b := by
    refine reach_least (G := gs) (fun b h => ?_) (fun p q h b hp hr => ?_) 5 j b
    · rcases I.d b h with q | ⟨e, he, _⟩
      · exact q
      · cases he
    · obtain ⟨i, a1, a2, rfl, rfl⟩ := (hst p q).mp h
      rcases I.c (par i) (hpar i a2) i (mem_wlN.mpr ⟨a1, a2, rfl⟩) b hp hr with q | ⟨e, he, _⟩
      · exact q
      · cases he
  unfold hasB at h1 h2
  cases e1 : (gs j).testBit b <;> cases e2 : (atN (reachN r st 5) j).testBit b
  · rfl
  · exact absurd (h2 e2) (by rw [e1]; decide)
  · exact absurd (h1 e1) (by rw [e2]; decide)
  · rfl
end
/-! PlainE -/
section
theorem and_bit (n e : Nat) : n &&& 2 ^ e = 2 ^ e * (n / 2 ^ e % 2) := by
  have hp : 0 < 2 ^ e := Nat.two_pow_pos e
  have h1 := Nat.and_div_two_pow (a := n) (b := 2 ^ e) (n := e)
  have h2 := Nat.and_mod_two_pow (a := n) (b := 2 ^ e) (n := e)
  rw [Nat.div_self hp, Nat.and_one_is_mod] at h1
  rw [Nat.mod_self, Nat.and_zero] at h2
  have h3 := Nat.div_add_mod (n &&& 2 ^ e) (2 ^ e)
  rw [h1, h2, Nat.add_zero] at h3
  exact h3.symm
theorem bit_same (g : Nat) {e : Nat} (he : e < 12) : (16384 + g) / 2 ^ e % 2 = g / 2 ^ e % 2 := by
  have h : 16384 = 2 ^ e * (2 ^ (13 - e) * 2) := by
    rw [← Nat.pow_succ, ← Nat.pow_add, show e + (13 - e).succ = 14 by omega]
  rw [h, Nat.mul_add_div (Nat.two_pow_pos e), Nat.mul_add_mod_self_right]
theorem mask_one {e : Nat} (he : e < 12) (g : Nat) : ((16384 + g) &&& 2 ^ e == 2 ^ e) = (g / 2 ^ e % 2 == 1) := by
  have hp : 0 < 2 ^ e := Nat.two_pow_pos e
  rw [and_bit, bit_same g he]
  rcases Nat.mod_two_eq_zero_or_one (g / 2 ^ e) with q | q <;> rw [q] <;> simp
  omega
theorem mask_two {a b : Nat} (he : (a, b) = (11, 6) ∨ (a, b) = (10, 3) ∨ (a, b) = (9, 0)) (g : Nat) : ((16384 + g) &&& (2 ^ a + 2 ^ b) == 2 ^ a + 2 ^ b) = (g / 2 ^ a % 2 == 1 && g / 2 ^ b % 2 == 1) := by
  have key : 2 ^ a + 2 ^ b = 2 ^ a ||| 2 ^ b ∧ a < 12 ∧ b < 12 := by rcases he with h | h | h <;> cases h <;> decide
  obtain ⟨h1, ha, hb⟩ := key
  rw [h1, Nat.and_or_distrib_left, and_bit, and_bit, bit_same g ha, bit_same g hb]
  rcases Nat.mod_two_eq_zero_or_one (g / 2 ^ a) with q1 | q1 <;> rcases Nat.mod_two_eq_zero_or_one (g / 2 ^ b) with q2 | q2 <;> rw [q1, q2] <;> rcases he with h | h | h <;> cases h <;> decide
theorem hit_int (m b : Nat) : (Builtin.bitAnd (m : Int) (b : Int) == (b : Int)) = (m &&& b == b) := by
  rw [bitAndN, Bool.eq_iff_iff]
  simp only [beq_iff_eq]
  exact ⟨fun h => by exact_mod_cast h, fun h => by exact_mod_cast h⟩
theorem hit_one {g e : Nat} (h : g < 4096) (he : e < 12) : (Builtin.bitAnd ((16384 + g : Nat) : Int) ((2 ^ e : Nat) : Int) == ((2 ^ e : Nat) : Int)) = (g / 2 ^ e % 2 == 1) := by
  rw [hit_int]
  exact mask_one he g
theorem hit_two {g a b : Nat} (h : g < 4096) (he : (a, b) = (11, 6) ∨ (a, b) = (10, 3) ∨ (a, b) = (9, 0)) : (Builtin.bitAnd ((16384 + g : Nat) : Int) ((2 ^ a + 2 ^ b : Nat) : Int) == ((2 ^ a + 2 ^ b : Nat) : Int)) = (g / 2 ^ a % 2 == 1 && g / 2 ^ b % 2 == 1) := by
  rw [hit_int]
  exact mask_two he g
theorem fch_one {m : Int} {i : Nat} (r : FRow) (hi : i ≠ 0) {c : Bool} (h : (Builtin.bitAnd m r.b == r.b) = c) : fmChar m i [r] = if c = true then r.c else Str.ofString "-" := by
  subst h
  unfold fmChar
  cases q : (Builtin.bitAnd m r.b == r.b) with
  | true =>
    have : fmHit m i r = true := by unfold fmHit; rw [if_neg hi]; exact q
    rw [List.find?_cons_of_pos this]; rfl
  | false =>
    have : ¬ fmHit m i r = true := by unfold fmHit; rw [if_neg hi, q]; decide
    rw [List.find?_cons_of_neg this, List.find?_nil]
    dsimp only
    rw [if_neg hi]; rfl
theorem fch_three {m : Int} {i : Nat} (r1 r2 r3 : FRow) (hi : i ≠ 0) {x y : Bool} (h1 : (Builtin.bitAnd m r1.b == r1.b) = (x && y)) (h2 : (Builtin.bitAnd m r2.b == r2.b) = x) (h3 : (Builtin.bitAnd m r3.b == r3.b) = y) : fmChar m i [r1, r2, r3] = if x = true then (if y = true then r1.c else r2.c) else if y = true then r3.c else Str.ofString "-" := by
  have e1 : fmHit m i r1 = (x && y) := by unfold fmHit; rw [if_neg hi]; exact h1
  have e2 : fmHit m i r2 = x := by unfold fmHit; rw [if_neg hi]; exact h2
  have e3 : fmHit m i r3 = y := by unfold fmHit; rw [if_neg hi]; exact h3
  unfold fmChar
  cases x <;> cases y <;> simp only [List.find?, e1, e2, e3, Bool.and_true, Bool.and_false, if_neg hi] <;> rfl
theorem str_ext {a b : Str} (h : a.cps = b.cps) : a = b := by cases a; cases b; exact congrArg Str.mk h
theorem str_app (a b : Str) : (a ++ b).cps = a.cps ++ b.cps := rfl
theorem join_ten (c0 c1 c2 c3 c4 c5 c6 c7 c8 c9 : Str) : Txt.join (Str.ofString "") [c0, c1, c2, c3, c4, c5, c6, c7, c8, c9] = ((((((((c0 ++ c1) ++ c2) ++ c3) ++ c4) ++ c5) ++ c6) ++ c7) ++ c8) ++ c9 := by
  show Builtin.Str.glued (Str.ofString "") _ = _
  rw [StrLaws.glued_eq_join]
  apply str_ext
  have e : (Str.ofString "").cps = #[] := by decide
  simp only [Str.join, str_app, e, Array.append_empty, Array.append_assoc]
theorem signR_bit (g e : Nat) (c : Str) : signR g e c = if (g / 2 ^ e % 2 == 1) = true then c else Str.ofString "-" := by
  unfold signR
  have : (((g / 2 ^ e % 2 : Nat) : Int) == 1) = (g / 2 ^ e % 2 == 1) := by
    rw [Bool.eq_iff_iff]
    simp only [beq_iff_eq]
    omega
  rw [this]
theorem signX_bits (g i : Nat) (hi : i < 3) : signX g i = if (g / 2 ^ (11 - i) % 2 == 1) = true then (if (g / 2 ^ (6 - 3 * i) % 2 == 1) = true then ⟨#[(signTab i).cps[3]?.getD 0]⟩ else ⟨#[(signTab i).cps[2]?.getD 0]⟩) else if (g / 2 ^ (6 - 3 * i) % 2 == 1) = true then ⟨#[(signTab i).cps[1]?.getD 0]⟩ else ⟨#[(signTab i).cps[0]?.getD 0]⟩ := by
  unfold signX
  rcases Nat.mod_two_eq_zero_or_one (g / 2 ^ (11 - i)) with q1 | q1 <;> rcases Nat.mod_two_eq_zero_or_one (g / 2 ^ (6 - 3 * i)) with q2 | q2 <;> rw [q1, q2] <;> rfl
theorem fm_sign {g : Nat} (h : g < 4096) : fmF ((16384 + g : Nat) : Int) = signN g 3 := by
  generalize hM : ((16384 + g : Nat) : Int) = M
  have c0 : fmChar M 0 ((fmT[0]?.map (·.2)).getD []) = Str.ofString "d" := by
    have k := mask_top h
    have k2 : Builtin.bitAnd M 61440 = 16384 := by
      rw [← hM]
      exact (bitAndN (16384 + g) 61440).trans (by rw [k]; rfl)
    unfold fmChar fmHit
    simp only [if_pos, k2]
    decide
  have c1 : fmChar M 1 ((fmT[1]?.map (·.2)).getD []) = signR g 8 (Str.ofString "r") := by
    rw [signR_bit, show Str.ofString "r" = ⟨#[114]⟩ by decide]
    exact fch_one ⟨194, 256, 447, ⟨#[114]⟩, 472⟩ (by decide) (by rw [← hM]; exact hit_one (e := 8) h (by decide))
  have c2 : fmChar M 2 ((fmT[2]?.map (·.2)).getD []) = signR g 7 (Str.ofString "w") := by
    rw [signR_bit, show Str.ofString "w" = ⟨#[119]⟩ by decide]
    exact fch_one ⟨196, 128, 449, ⟨#[119]⟩, 473⟩ (by decide) (by rw [← hM]; exact hit_one (e := 7) h (by decide))
  have c4 : fmChar M 4 ((fmT[4]?.map (·.2)).getD []) = signR g 5 (Str.ofString "r") := by
    rw [signR_bit, show Str.ofString "r" = ⟨#[114]⟩ by decide]
    exact fch_one ⟨202, 32, 453, ⟨#[114]⟩, 478⟩ (by decide) (by rw [← hM]; exact hit_one (e := 5) h (by decide))
  have c5 : fmChar M 5 ((fmT[5]?.map (·.2)).getD []) = signR g 4 (Str.ofString "w") := by
    rw [signR_bit, show Str.ofString "w" = ⟨#[119]⟩ by decide]
    exact fch_one ⟨204, 16, 455, ⟨#[119]⟩, 479⟩ (by decide) (by rw [← hM]; exact hit_one (e := 4) h (by decide))
  have c7 : fmChar M 7 ((fmT[7]?.map (·.2)).getD []) = signR g 2 (Str.ofString "r") := by
    rw [signR_bit, show Str.ofString "r" = ⟨#[114]⟩ by decide]
    exact fch_one ⟨210, 4, 459, ⟨#[114]⟩, 484⟩ (by decide) (by rw [← hM]; exact hit_one (e := 2) h (by decide))
  have c8 : fmChar M 8 ((fmT[8]?.map (·.2)).getD []) = signR g 1 (Str.ofString "w") := by
    rw [signR_bit, show Str.ofString "w" = ⟨#[119]⟩ by decide]
    exact fch_one ⟨212, 2, 461, ⟨#[119]⟩, 485⟩ (by decide) (by rw [← hM]; exact hit_one (e := 1) h (by decide))
  have c3 : fmChar M 3 ((fmT[3]?.map (·.2)).getD []) = signX g 0 := by
    rw [signX_bits g 0 (by decide)]
    refine (fch_three ⟨198, 2112, 474, ⟨#[115]⟩, 475⟩ ⟨199, 2048, 441, ⟨#[83]⟩, 476⟩ ⟨200, 64, 451, ⟨#[120]⟩, 477⟩ (by decide) (x := g / 2 ^ 11 % 2 == 1) (y := g / 2 ^ 6 % 2 == 1) (by rw [← hM]; exact hit_two (a := 11) (b := 6) h (by decide)) (by rw [← hM]; exact hit_one (e := 11) h (by decide)) (by rw [← hM]; exact hit_one (e := 6) h (by decide))).trans ?_
    have e : Str.ofString "-" = ⟨#[(signTab 0).cps[0]?.getD 0]⟩ := by decide
    rw [e]
    rfl
  have c6 : fmChar M 6 ((fmT[6]?.map (·.2)).getD []) = signX g 1 := by
    rw [signX_bits g 1 (by decide)]
    refine (fch_three ⟨206, 1032, 480, ⟨#[115]⟩, 481⟩ ⟨207, 1024, 443, ⟨#[83]⟩, 482⟩ ⟨208, 8, 457, ⟨#[120]⟩, 483⟩ (by decide) (x := g / 2 ^ 10 % 2 == 1) (y := g / 2 ^ 3 % 2 == 1) (by rw [← hM]; exact hit_two (a := 10) (b := 3) h (by decide)) (by rw [← hM]; exact hit_one (e := 10) h (by decide)) (by rw [← hM]; exact hit_one (e := 3) h (by decide))).trans ?_
    have e : Str.ofString "-" = ⟨#[(signTab 1).cps[0]?.getD 0]⟩ := by decide
    rw [e]
    rfl
  have c9 : fmChar M 9 ((fmT[9]?.map (·.2)).getD []) = signX g 2 := by
    rw [signX_bits g 2 (by decide)]
    refine (fch_three ⟨214, 513, 486, ⟨#[116]⟩, 487⟩ ⟨215, 512, 445, ⟨#[84]⟩, 488⟩ ⟨216, 1, 463, ⟨#[120]⟩, 489⟩ (by decide) (x := g / 2 ^ 9 % 2 == 1) (y := g / 2 ^ 0 % 2 == 1) (by rw [← hM]; exact hit_two (a := 9) (b := 0) h (by decide)) (by rw [← hM]; exact hit_one (e := 9) h (by decide)) (by rw [← hM]; exact hit_one (e := 0) h (by decide))).trans ?_
    have e : Str.ofString "-" = ⟨#[(signTab 2).cps[0]?.getD 0]⟩ := by decide
    rw [e]
    rfl
  show Txt.join (Str.ofString "") [_, _, _, _, _, _, _, _, _, _] = _
  rw [c0, c1, c2, c3, c4, c5, c6, c7, c8, c9, join_ten]
  rfl
end
/-! PlainF -/
section
theorem countP_lt {p q : Nat → Bool} : ∀ {l : List Nat}, (∀ x, p x = true → q x = true) → (∃ x ∈ l, q x = true ∧ p x = false) → l.countP p + 1 ≤ l.countP q
  | [], _, ⟨x, hx, _⟩ => nomatch hx
  | a :: l, h, ⟨x, hx, h1, h2⟩ => by
    rw [List.countP_cons, List.countP_cons]
    have hm : l.countP p ≤ l.countP q := List.countP_mono_left fun y _ => h y
    rcases List.mem_cons.mp hx with rfl | hx
    · rw [if_pos h1, if_neg (by rw [h2]; decide)]; omega
    · have := countP_lt (l := l) h ⟨x, hx, h1, h2⟩
      by_cases ha : p a = true
      · rw [if_pos ha, if_pos (h a ha)]; omega
      · rw [if_neg ha]; omega
def bitN (n : Nat) : Nat := (List.range 12).countP fun b => n.testBit b
theorem bitN_le (n : Nat) : bitN n ≤ 12 := by
  unfold bitN
  exact Nat.le_trans List.countP_le_length (by simp)
theorem bitN_lt {g m b : Nat} (hm : m < 4096) (h1 : hasB m b) (h2 : ¬ hasB g b) : bitN g + 1 ≤ bitN (g ||| m) := by
  have hb : b < 12 := by
    rcases Nat.lt_or_ge b 12 with h | h
    · exact h
    · have : m.testBit b = false := Nat.testBit_lt_two_pow (Nat.lt_of_lt_of_le hm (Nat.pow_le_pow_right (n := 2) (by decide) h))
      unfold hasB at h1
      rw [this] at h1; cases h1
  refine countP_lt (fun x hx => ?_) ⟨b, List.mem_range.mpr hb, ?_, ?_⟩
  · rw [Nat.testBit_or, hx]; rfl
  · rw [Nat.testBit_or]; unfold hasB at h1; rw [h1]; simp
  · unfold hasB at h2; simpa using h2
def dg (par : Nat → Nat) (p : Nat) : Nat := (wlN par p 8).length
theorem wl_len_succ (par : Nat → Nat) (p n : Nat) : (wlN par p (n + 1)).length = (wlN par p n).length + (if n ≠ 0 ∧ par n = p then 1 else 0) := by
  rw [wlN_succ, List.length_append]
  split <;> rfl
theorem dg_sum {par : Nat → Nat} (hpar : ∀ i, i < 8 → par i < 5) : dg par 0 + dg par 1 + dg par 2 + dg par 3 + dg par 4 = 7 := by
  have key : ∀ n, n < 8 → (wlN par 0 (n + 1)).length + (wlN par 1 (n + 1)).length + (wlN par 2 (n + 1)).length + (wlN par 3 (n + 1)).length + (wlN par 4 (n + 1)).length = n := by
    intro n
    induction n with
    | zero => intro _; simp [wl_len_succ]; unfold wlN; simp
    | succ n ih =>
      intro h
      have h1 := ih (by omega)
      rw [wl_len_succ par 0 (n + 1), wl_len_succ par 1 (n + 1), wl_len_succ par 2 (n + 1), wl_len_succ par 3 (n + 1), wl_len_succ par 4 (n + 1)]
      have h2 := hpar (n + 1) h
      generalize par (n + 1) = q at h2
      rcases cases5 q h2 with rfl | rfl | rfl | rfl | rfl <;> simp <;> omega
  exact key 7 (by decide)
def phiN (wt gs : Nat → Nat) : Nat := wt 0 * (12 - bitN (gs 0)) + wt 1 * (12 - bitN (gs 1)) + wt 2 * (12 - bitN (gs 2)) + wt 3 * (12 - bitN (gs 3)) + wt 4 * (12 - bitN (gs 4))
def FullB (R gs : Nat → Nat) (p : Nat) : Prop := ∀ b, hasB (R p) b → hasB (gs p) b
structure TailB (par R wt : Nat → Nat) (es : List (Nat × Nat)) (gs : Nat → Nat) (ls : List Int) : Prop where
  full : ∀ p, p < 5 → wt p = dg par p ∨ FullB R gs p
  le : ls.length + es.length + phiN wt gs ≤ 63
theorem phi_same {wt gs gs' : Nat → Nat} (h : ∀ p, p < 5 → gs' p = gs p) : phiN wt gs' = phiN wt gs := by
  unfold phiN
  rw [h 0 (by decide), h 1 (by decide), h 2 (by decide), h 3 (by decide), h 4 (by decide)]
theorem phi_less {wt gs gs' : Nat → Nat} {j : Nat} (hj : j < 5) (h : ∀ p, p ≠ j → gs' p = gs p) (hc : bitN (gs j) + 1 ≤ bitN (gs' j)) : phiN wt gs' + wt j ≤ phiN wt gs := by
  have h12 := bitN_le (gs' j)
  have hm : wt j * (12 - bitN (gs' j)) + wt j ≤ wt j * (12 - bitN (gs j)) := by
    rw [← Nat.mul_succ]
    exact Nat.mul_le_mul_left _ (by omega)
  clear hc h12
  unfold phiN
  rcases cases5 j hj with rfl | rfl | rfl | rfl | rfl
  · rw [h 1 (by decide), h 2 (by decide), h 3 (by decide), h 4 (by decide)]; clear h hj; generalize wt 0 * (12 - bitN (gs' 0)) = p at *; generalize wt 0 * (12 - bitN (gs 0)) = r at *; generalize wt 1 * (12 - bitN (gs 1)) = x1 at *; generalize wt 2 * (12 - bitN (gs 2)) = x2 at *; generalize wt 3 * (12 - bitN (gs 3)) = x3 at *; generalize wt 4 * (12 - bitN (gs 4)) = x4 at *; omega
  · rw [h 0 (by decide), h 2 (by decide), h 3 (by decide), h 4 (by decide)]; clear h hj; generalize wt 1 * (12 - bitN (gs' 1)) = p at *; generalize wt 1 * (12 - bitN (gs 1)) = r at *; generalize wt 0 * (12 - bitN (gs 0)) = x0 at *; generalize wt 2 * (12 - bitN (gs 2)) = x2 at *; generalize wt 3 * (12 - bitN (gs 3)) = x3 at *; generalize wt 4 * (12 - bitN (gs 4)) = x4 at *; omega
  · rw [h 0 (by decide), h 1 (by decide), h 3 (by decide), h 4 (by decide)]; clear h hj; generalize wt 2 * (12 - bitN (gs' 2)) = p at *; generalize wt 2 * (12 - bitN (gs 2)) = r at *; generalize wt 0 * (12 - bitN (gs 0)) = x0 at *; generalize wt 1 * (12 - bitN (gs 1)) = x1 at *; generalize wt 3 * (12 - bitN (gs 3)) = x3 at *; generalize wt 4 * (12 - bitN (gs 4)) = x4 at *; omega
  · rw [h 0 (by decide), h 1 (by decide), h 2 (by decide), h 4 (by decide)]; clear h hj; generalize wt 3 * (12 - bitN (gs' 3)) = p at *; generalize wt 3 * (12 - bitN (gs 3)) = r at *; generalize wt 0 * (12 - bitN (gs 0)) = x0 at *; generalize wt 1 * (12 - bitN (gs 1)) = x1 at *; generalize wt 2 * (12 - bitN (gs 2)) = x2 at *; generalize wt 4 * (12 - bitN (gs 4)) = x4 at *; omega
  · rw [h 0 (by decide), h 1 (by decide), h 2 (by decide), h 3 (by decide)]; clear h hj; generalize wt 4 * (12 - bitN (gs' 4)) = p at *; generalize wt 4 * (12 - bitN (gs 4)) = r at *; generalize wt 0 * (12 - bitN (gs 0)) = x0 at *; generalize wt 1 * (12 - bitN (gs 1)) = x1 at *; generalize wt 2 * (12 - bitN (gs 2)) = x2 at *; generalize wt 3 * (12 - bitN (gs 3)) = x3 at *; omega
theorem phi_le (wt gs : Nat → Nat) : phiN wt gs ≤ 12 * (wt 0 + wt 1 + wt 2 + wt 3 + wt 4) := by
  have k : ∀ p, wt p * (12 - bitN (gs p)) ≤ 12 * wt p := fun p => by
    rw [Nat.mul_comm 12]
    exact Nat.mul_le_mul_left _ (Nat.sub_le _ _)
  have := k 0; have := k 1; have := k 2; have := k 3; have := k 4
  unfold phiN
  omega
theorem push_len (par go r : Nat → Nat) (F j : Nat) : (pushN go r F (wlN par j 8)).length ≤ dg par j := List.length_filterMap_le _ _
theorem push_zero (par go r : Nat → Nat) (j : Nat) : pushN go r 0 (wlN par j 8) = [] := by
  unfold pushN
  rw [List.filterMap_eq_nil_iff]
  intro i _
  rw [Nat.zero_and, if_neg (Nat.lt_irrefl _)]
theorem full_upd {R gs : Nat → Nat} {m j p : Nat} (h : FullB R gs p) : FullB R (updN gs (m, j)) p := fun b hb => by
  rw [updN_or]
  split
  · exact hasB_or.mpr (Or.inl (h b hb))
  · exact h b hb
theorem fresh_bit {m j : Nat} {gs : Nat → Nat} (h : freshN (m, j) gs ≠ 0) : ∃ b, hasB m b ∧ ¬ hasB (gs j) b := by
  obtain ⟨b, hb⟩ := Nat.exists_testBit_of_ne_zero h
  exact ⟨b, hasB_fresh.mp (show hasB (m - (m &&& gs j)) b from hb)⟩
theorem tail_turn {par go r R wt : Nat → Nat} {es es' : List (Nat × Nat)} {gs : Nat → Nat} {ls : List Int} {m j : Nat} {x : Int} (T : TailB par R wt es gs ls) (hm : m < 4096) (hj : j < 5) (hR : ∀ b, hasB m b → hasB (R j) b) (hp : es.Perm ((m, j) :: es')) :
    TailB par R wt (es' ++ pushN go r (freshN (m, j) gs) (wlN par j 8)) (updN gs (m, j)) (ls ++ [x]) := by
  have hlen := hp.length_eq
  rw [List.length_cons] at hlen
  have hl := T.le
  refine ⟨fun p hp5 => (T.full p hp5).imp id full_upd, ?_⟩
  rw [List.length_append, List.length_append, List.length_singleton]
  by_cases h0 : freshN (m, j) gs = 0
  · rw [h0, push_zero, List.length_nil]
    have hs : phiN wt (updN gs (m, j)) = phiN wt gs := phi_same fun p _ => by
      unfold updN
      split
      · rename_i e
        rw [h0]; rfl
      · rfl
    rw [hs]
    omega
  · obtain ⟨b, h1, h2⟩ := fresh_bit h0
    have hw : wt j = dg par j := (T.full j hj).resolve_right fun q => h2 (q b (hR b h1))
    have hs := phi_less (wt := wt) (gs := gs) (gs' := updN gs (m, j)) hj (fun p hpj => by rw [updN_or, if_neg hpj]) (by rw [updN_or, if_pos rfl]; exact bitN_lt hm h1 h2)
    have := push_len par go r (freshN (m, j) gs) j
    omega
def CntN (par r R : Nat → Nat) (es : List (Nat × Nat)) (gs : Nat → Nat) (ls : List Int) : Prop :=
  (es = [(r 0, 0)] ∧ gs = (fun _ => 0) ∧ ls = []) ∨ (dg par 0 = 1 ∧ FullB R gs 0 ∧ ls.length = 1 ∧ es.length ≤ 1 ∧ ∀ e ∈ es, e.2 = 1 ∧ ∀ b, hasB (R 1) b → hasB e.1 b) ∨ ∃ wt, TailB par R wt es gs ls
theorem cnt_end {par r R : Nat → Nat} {gs : Nat → Nat} {ls : List Int} (h : CntN par r R [] gs ls) : ls.length ≤ 63 := by
  rcases h with ⟨h, _⟩ | ⟨_, _, h, _⟩ | ⟨wt, T⟩
  · cases h
  · omega
  · have := T.le
    omega
theorem cnt_turn {par go r R : Nat → Nat} (hpar : ∀ i, i < 8 → par i < 5) (hp1 : par 1 = 0) (hp2 : par 2 ≤ 1) (hg1 : go 1 = 1) (hR : ∀ j b, hasB (R j) b → hasB (r 0) b ∧ hasB (r j) b)
    {es es' : List (Nat × Nat)} {gs : Nat → Nat} {ls : List Int} {m j : Nat} {x : Int} (C : CntN par r R es gs ls) (hm : m < 4096) (hj : j < 5) (hmR : ∀ b, hasB m b → hasB (R j) b) (hp : es.Perm ((m, j) :: es')) :
    CntN par r R (es' ++ pushN go r (freshN (m, j) gs) (wlN par j 8)) (updN gs (m, j)) (ls ++ [x]) := by
  have hsum := dg_sum hpar
  have m1 : 1 ∈ wlN par 0 8 := mem_wlN.mpr ⟨by decide, by decide, hp1⟩
  rcases C with ⟨rfl, rfl, rfl⟩ | ⟨hd, h0, hl, he1, hes⟩ | ⟨wt, T⟩
  · have e0 := List.perm_singleton.mp hp.symm
    cases e0
    have hf : freshN (r 0, 0) (fun _ => 0) = r 0 := by unfold freshN; simp
    rw [hf]
    have hfull : FullB R (updN (fun _ => 0) (r 0, 0)) 0 := fun b hb => by
      rw [updN_or, if_pos rfl]
      exact hasB_or.mpr (Or.inr (hR 0 b hb).1)
    by_cases h2 : 2 ≤ dg par 0
    · refine Or.inr (Or.inr ⟨fun p => if p = 0 then 0 else dg par p, fun p hp5 => ?_, ?_⟩)
      · by_cases hp0 : p = 0
        · subst hp0; exact Or.inr hfull
        · exact Or.inl (if_neg hp0)
      · have h3 := phi_le (fun p => if p = 0 then 0 else dg par p) (updN (fun _ => 0) (r 0, 0))
        have h4 := push_len par go r (r 0) 0
        simp only [if_pos, if_neg, show ¬ (1 = 0) by decide, show ¬ (2 = 0) by decide, show ¬ (3 = 0) by decide, show ¬ (4 = 0) by decide, if_false] at h3
        rw [List.nil_append, List.nil_append, List.length_singleton]
        omega
    · have hd1 : dg par 0 = 1 := by
        have : 0 < dg par 0 := List.length_pos_of_mem m1
        omega
      refine Or.inr (Or.inl ⟨hd1, hfull, rfl, ?_, ?_⟩)
      · have h4 := push_len par go r (r 0) 0
        rw [List.nil_append]; omega
      · obtain ⟨i, hi⟩ := List.length_eq_one_iff.mp (show (wlN par 0 8).length = 1 from hd1)
        rw [hi] at m1 ⊢
        rw [← List.mem_singleton.mp m1]
        intro e he
        rw [List.nil_append] at he
        unfold pushN at he
        rw [List.filterMap_cons, List.filterMap_nil, hg1] at he
        by_cases hq : 0 < r 0 &&& r 1
        · rw [if_pos hq] at he
          rw [List.mem_singleton.mp he]
          exact ⟨rfl, fun b hb => hasB_and.mpr (hR 1 b hb)⟩
        · rw [if_neg hq] at he
          cases he
  · have hlen := hp.length_eq
    rw [List.length_cons] at hlen
    have he' : es' = [] := List.eq_nil_of_length_eq_zero (by omega)
    subst he'
    obtain ⟨hj1, hb1⟩ := hes (m, j) (hp.mem_iff.mpr (.head _))
    dsimp only at hj1 hb1
    subst hj1
    have m2 : 2 ∈ wlN par 1 8 := by
      refine mem_wlN.mpr ⟨by decide, by decide, ?_⟩
      rcases Nat.lt_or_ge (par 2) 1 with q | q
      · have m3 : 2 ∈ wlN par 0 8 := mem_wlN.mpr ⟨by decide, by decide, by omega⟩
        obtain ⟨i, hi⟩ := List.length_eq_one_iff.mp (show (wlN par 0 8).length = 1 from hd)
        rw [hi] at m1 m3
        have e1 := List.mem_singleton.mp m1
        have e2 := List.mem_singleton.mp m3
        omega
      · omega
    have hd1 : 0 < dg par 1 := List.length_pos_of_mem m2
    have hfull : FullB R (updN gs (m, 1)) 1 := fun b hb => by
      rw [updN_or, if_pos rfl]
      exact hasB_or.mpr (Or.inr (hb1 b hb))
    refine Or.inr (Or.inr ⟨fun p => if p ≤ 1 then 0 else dg par p, fun p hp5 => ?_, ?_⟩)
    · by_cases hp0 : p ≤ 1
      · rcases Nat.lt_or_ge p 1 with q | q
        · have : p = 0 := by omega
          subst this; exact Or.inr (full_upd h0)
        · have : p = 1 := by omega
          subst this; exact Or.inr hfull
      · exact Or.inl (if_neg hp0)
    · have h3 := phi_le (fun p => if p ≤ 1 then 0 else dg par p) (updN gs (m, 1))
      have h4 := push_len par go r (freshN (m, 1) gs) 1
      simp only [show (0 ≤ 1) by decide, show (1 ≤ 1) by decide, show ¬ (2 ≤ 1) by decide, show ¬ (3 ≤ 1) by decide, show ¬ (4 ≤ 1) by decide, if_true, if_false] at h3
      rw [List.nil_append, List.length_append, List.length_singleton]
      omega
  · exact Or.inr (Or.inr ⟨wt, tail_turn T hm hj hmR hp⟩)
/-- the plain side, with how often the bag is asked -/
theorem plainC {par go r R : Nat → Nat} (hgo : ∀ i, i < 8 → go i < 5) (hr : ∀ j, j < 5 → r j < 4096) (C : Closed par go r R) (hpar : ∀ i, i < 8 → par i < 5) (hp1 : par 1 = 0) (hp2 : par 2 ≤ 1) (hg1 : go 1 = 1) (hR : ∀ j b, hasB (R j) b → hasB (r 0) b ∧ hasB (r j) b) :
    Plain par go r (fun es gs ls => InvN par go r R es gs ls ∧ CntN par r R es gs ls) muN where
  init := ⟨(plainN hgo hr C).init, Or.inl ⟨rfl, rfl, rfl⟩⟩
  bound := fun es gs ls I => (plainN hgo hr C).bound es gs ls I.1
  turn := by
    rintro es gs ls ⟨m, j⟩ es' ⟨I, K⟩ hp hmax
    obtain ⟨h1, h2⟩ := (plainN hgo hr C).turn es gs ls (m, j) es' I hp hmax
    obtain ⟨a1, a2, a3⟩ := I.a (m, j) (hp.mem_iff.mpr (.head _))
    dsimp only at a1 a2 a3
    exact ⟨⟨h1, cnt_turn hpar hp1 hp2 hg1 hR K (by omega) a2 a3 hp⟩, h2⟩
theorem reach_in {r : Nat → Nat} {st : List (Nat × Nat)} (j b : Nat) (h : hasB (atN (reachN r st 5) j) b) : hasB (r 0) b ∧ hasB (r j) b := by
  have := reach_least (r := r) (G := fun j => r 0 &&& r j) (st := st) (fun b h => hasB_and.mpr ⟨h, h⟩) (fun p q _ b hp hq => hasB_and.mpr ⟨(hasB_and.mp hp).1, hq⟩) 5 j b h
  exact hasB_and.mp this
end
/-! PlainG -/
section
open PySem.StrLaws PySem.Builtin PySem.Builtin.Str
theorem sl47 : Str.ofString "/" = ⟨#[47]⟩ := by decide
theorem str_list {a b : Str} (h : a.cps.toList = b.cps.toList) : a = b := str_ext (Array.toList_inj.mp h)
theorem app_list (a b : Str) : (a ++ b).cps.toList = a.cps.toList ++ b.cps.toList := by rw [str_app, Array.toList_append]
theorem str_assoc (a b c : Str) : (a ++ b) ++ c = a ++ (b ++ c) := str_list (by simp only [app_list, List.append_assoc])
theorem list_cut {c : Nat} : ∀ {a b x y : List Nat}, c ∉ a → c ∉ b → a ++ c :: x = b ++ c :: y → a = b ∧ x = y
  | [], [], x, y, _, _, h => ⟨rfl, by simpa using h⟩
  | [], d :: b, x, y, _, hb, h => by
    simp only [List.nil_append, List.cons_append, List.cons.injEq] at h
    exact absurd (h.1 ▸ List.mem_cons_self) hb
  | d :: a, [], x, y, ha, _, h => by
    simp only [List.nil_append, List.cons_append, List.cons.injEq] at h
    exact absurd (h.1 ▸ List.mem_cons_self) ha
  | d :: a, e :: b, x, y, ha, hb, h => by
    simp only [List.cons_append, List.cons.injEq] at h
    obtain ⟨rfl, h⟩ := h
    obtain ⟨h1, h2⟩ := list_cut (a := a) (b := b) (fun q => ha (.tail _ q)) (fun q => hb (.tail _ q)) h
    exact ⟨by rw [h1], h2⟩
theorem join_two (y a b : Str) (r : List Str) : (Str.join y (a :: b :: r)).cps.toList = a.cps.toList ++ (y.cps.toList ++ (Str.join y (b :: r)).cps.toList) := by
  show ((a ++ y) ++ Str.join y (b :: r)).cps.toList = _
  rw [app_list, app_list, List.append_assoc]
theorem join_cat (y : Str) (q : Str) (qs : List Str) : ∀ (p : Str) (ps : List Str), Str.join y ((p :: ps) ++ (q :: qs)) = (Str.join y (p :: ps) ++ y) ++ Str.join y (q :: qs)
  | p, [] => rfl
  | p, p2 :: ps => by
    apply str_list
    rw [app_list, app_list]
    show (Str.join y (p :: p2 :: (ps ++ q :: qs))).cps.toList = _
    rw [join_two, join_two]
    have := congrArg (fun s : Str => s.cps.toList) (join_cat y q qs p2 ps)
    simp only [app_list] at this
    rw [show p2 :: (ps ++ q :: qs) = (p2 :: ps) ++ (q :: qs) from rfl, this]
    simp only [List.append_assoc]
theorem join_inj : ∀ {ps qs : List Str}, ps ≠ [] → qs ≠ [] → (∀ p ∈ ps, 47 ∉ p.cps.toList) → (∀ p ∈ qs, 47 ∉ p.cps.toList) → Str.join ⟨#[47]⟩ ps = Str.join ⟨#[47]⟩ qs → ps = qs
  | [], _, h, _, _, _, _ => absurd rfl h
  | _ :: _, [], _, h, _, _, _ => absurd rfl h
  | [a], [b], _, _, _, _, h => congrArg (fun x => [x]) (show a = b from h)
  | [a], b :: b2 :: r, _, _, ha, _, h => by
    have h' : a.cps.toList = _ := (congrArg (fun s : Str => s.cps.toList) (show a = Str.join ⟨#[47]⟩ (b :: b2 :: r) from h)).trans (join_two _ _ _ _)
    exact absurd (by rw [h']; simp) (ha a (.head _))
  | a :: a2 :: r, [b], _, _, _, hb, h => by
    have h' : b.cps.toList = _ := (congrArg (fun s : Str => s.cps.toList) (show b = Str.join ⟨#[47]⟩ (a :: a2 :: r) from h.symm)).trans (join_two _ _ _ _)
    exact absurd (by rw [h']; simp) (hb b (.head _))
  | a :: a2 :: r, b :: b2 :: t, _, _, ha, hb, h => by
    have h' := congrArg (fun s : Str => s.cps.toList) h
    rw [join_two, join_two] at h'
    obtain ⟨h1, h2⟩ := list_cut (ha a (.head _)) (hb b (.head _)) (by simpa using h')
    have ih := join_inj (ps := a2 :: r) (qs := b2 :: t) (by simp) (by simp) (fun p hp => ha p (.tail _ hp)) (fun p hp => hb p (.tail _ hp)) (str_list h2)
    rw [ih, str_list h1]
theorem split_ne (x : Str) : Txt.split x ⟨#[47]⟩ ≠ [] := fun h => by have := split_pos x ⟨#[47]⟩; rw [h] at this; exact absurd this (by decide)
theorem split_cat (p q : Str) : Txt.split ((p ++ ⟨#[47]⟩) ++ q) ⟨#[47]⟩ = Txt.split p ⟨#[47]⟩ ++ Txt.split q ⟨#[47]⟩ := by
  refine join_inj (split_ne _) (by simp [split_ne]) (split_free _ 47) (fun s hs => ?_) ?_
  · rcases List.mem_append.mp hs with hs | hs
    · exact split_free _ 47 s hs
    · exact split_free _ 47 s hs
  · rw [join_split]
    have hp := join_split p ⟨#[47]⟩
    have hq := join_split q ⟨#[47]⟩
    cases e1 : Txt.split p ⟨#[47]⟩ with
    | nil => exact absurd e1 (split_ne _)
    | cons a r =>
      cases e2 : Txt.split q ⟨#[47]⟩ with
      | nil => exact absurd e2 (split_ne _)
      | cons b t =>
        rw [e1] at hp
        rw [e2] at hq
        rw [join_cat, hp, hq]
theorem splitF_one {r : Str} (h0 : 0 < r.length) (h1 : r.cps.toList[0]? ≠ some 47) : splitF (⟨#[47]⟩ ++ r) = (Str.ofString "/", r) := by
  obtain ⟨l, hl⟩ : ∃ l, r.cps.toList = l := ⟨_, rfl⟩
  have hp : (⟨#[47]⟩ ++ r : Str).cps.toList = 47 :: l := by rw [app_list, hl]; rfl
  have hn : (⟨#[47]⟩ ++ r : Str).length = l.length + 1 := by
    show (⟨#[47]⟩ ++ r : Str).cps.size = _
    rw [← Array.length_toList, hp]; rfl
  have hl0 : 0 < l.length := by rw [← hl, Array.length_toList]; exact h0
  have hpl : ((⟨#[47]⟩ ++ r : Str).length : Int) = l.length + 1 := by rw [hn]; rfl
  have s1 : Txt.slice (⟨#[47]⟩ ++ r) none (some 1) = ⟨#[47]⟩ := by
    rw [beq_iff_eq.mp (slice_closes_toL (x := ⟨#[47]⟩ ++ r) (j := 1) (by decide) (by omega))]
    apply str_list
    rw [hp]; rfl
  have s2 : Txt.slice (⟨#[47]⟩ ++ r) (some 1) (some 2) = ⟨(l.take 1).toArray⟩ := by
    rw [beq_iff_eq.mp (slice_closesL (x := ⟨#[47]⟩ ++ r) (i := 1) (j := 2) (by decide) (by decide) (by omega))]
    rw [hp]; rfl
  have s3 : Txt.slice (⟨#[47]⟩ ++ r) (some 1) none = r := by
    rw [slice_from_eq (x := ⟨#[47]⟩ ++ r) (i := 1) (by decide) (by omega) rfl]
    apply str_list
    rw [hp, hl, hpl]
    show List.take (((l.length : Int) + 1) - 1).toNat l = l
    rw [show (((l.length : Int) + 1) - 1).toNat = l.length by omega, List.take_length]
  unfold splitF
  rw [s1, s2, s3, sl47, if_neg (by simp), if_pos]
  rw [Bool.or_eq_true]
  left
  rw [hl] at h1
  cases l with
  | nil => simp at hl0
  | cons a t =>
    simp only [List.getElem?_cons_zero, ne_eq, Option.some.injEq] at h1
    show ((List.take 1 (a :: t)).toArray.toList != [47]) = true
    simp [h1]
theorem normOk_of {p r : Str} (hs : splitF p = (Str.ofString "/", r)) (h0 : p.length ≠ 0) (hp : p.length ≤ 100) (hr : r.length ≤ 100) (hj : JoinOk (Str.ofString "/") (normList p) = true) (hz : (Txt.join (Str.ofString "/") (normList p)).length ≤ 100) : normOk p = true := by
  have h1 : (Str.ofString "/").length = 1 := by decide
  unfold normOk
  rw [hs]
  simp only [Bool.and_eq_true, decide_eq_true_eq]
  have ho := occ_length_le_len r (Str.ofString "/") 0 r.length (r.length + 1)
  have hp2 := split_le r (Str.ofString "/")
  refine ⟨⟨⟨⟨⟨⟨⟨⟨h0, by omega⟩, by omega⟩, by omega⟩, ?_⟩, by omega⟩, fun c hc => ?_⟩, hj⟩, by omega⟩
  · rw [length_partsBetween]; omega
  · have := part_short hc; omega
theorem starts_one (x : Str) : (Txt.startswith x (Str.ofString "/") = true) ↔ x.cps.toList[0]? = some 47 := by
  rw [sl47, ← subAt_one x 47 0]
  unfold Txt.startswith
  rw [Bool.and_eq_true, decide_eq_true_eq]
theorem joinF_app {k l y : Str} (hl : 0 < l.length) : joinF k (l ++ y) = joinF k l ++ y := by
  have e : (l ++ y).cps.toList[0]? = l.cps.toList[0]? := by
    rw [app_list, List.getElem?_append_left (by rw [Array.length_toList]; exact hl)]
  unfold joinF
  simp only [starts_one, e]
  split
  · rfl
  · split
    · rw [str_assoc]
    · simp only [str_assoc]
def T16 : List Str := (List.range 16).map fun m => (if m % 2 = 1 then Str.ofString "/a" else Str.ofString "") ++ (if m / 2 % 2 = 1 then Str.ofString "/b" else Str.ofString "") ++ (if m / 4 % 2 = 1 then Str.ofString "/a-" else Str.ofString "") ++ (if m / 8 % 2 = 1 then Str.ofString "/c" else Str.ofString "")
def keyOf (x : Str) : Str := if x.length ≠ 0 then x else Str.ofString "/"
def ctN (x : Str) : Nat := (Txt.count x (Str.ofString "/")).toNat
def wayL (y : Str) : List Str := (Txt.split (⟨#[46]⟩ ++ y) ⟨#[47]⟩).foldl normStep []
def gOf (s : Str) : Str := ⟨((s.cps.toList.drop 1).dropLast.dropLast).toArray⟩
theorem y_facts : ∀ y ∈ T16, Str.ofString "/" ++ Txt.join (Str.ofString "/") (wayL y) = keyOf y ∧ JoinOk (Str.ofString "/") (wayL y) = true ∧ (Txt.join (Str.ofString "/") (wayL y)).length ≤ 20 ∧ y.length ≤ 9 := by decide +kernel
theorem j_facts : ∀ x ∈ T16, ∀ c, c < 3 → 0 < (linkLead (ctN x) c).length ∧ (joinF (keyOf x) (linkLead (ctN x) c)).length ≤ 60 ∧ (joinF (keyOf x) (linkLead (ctN x) c) = ⟨#[47, 46]⟩ ∨
    (joinF (keyOf x) (linkLead (ctN x) c) = ⟨#[47]⟩ ++ ((gOf (joinF (keyOf x) (linkLead (ctN x) c)) ++ ⟨#[47]⟩) ++ ⟨#[46]⟩) ∧ 0 < (gOf (joinF (keyOf x) (linkLead (ctN x) c))).length ∧ (gOf (joinF (keyOf x) (linkLead (ctN x) c))).cps.toList[0]? ≠ some 47 ∧
      (Txt.split (gOf (joinF (keyOf x) (linkLead (ctN x) c))) ⟨#[47]⟩).foldl normStep [] = [])) := by decide +kernel
theorem norm_way {p r y : Str} (hy : y ∈ T16) (hp : p = ⟨#[47]⟩ ++ r) (hz : p.length ≤ 90) (h0 : 0 < r.length) (h1 : r.cps.toList[0]? ≠ some 47) (hw : (Txt.split r ⟨#[47]⟩).foldl normStep [] = wayL y) : normOk p = true ∧ normF p = keyOf y := by
  have hs : splitF p = (Str.ofString "/", r) := by rw [hp]; exact splitF_one h0 h1
  have hn : normList p = wayL y := by unfold normList; rw [hs, ← hw, sl47]
  have hpl : p.length = r.length + 1 := by
    rw [hp, Str.length_append]
    show 1 + r.length = _
    omega
  obtain ⟨f1, f2, f3, _⟩ := y_facts y hy
  refine ⟨normOk_of hs (by omega) (by omega) (by omega) (by rw [hn]; exact f2) (by rw [hn]; omega), ?_⟩
  unfold normF
  rw [hs, hn]
  exact f1
theorem x_norm {x y : Str} {c : Nat} (hx : x ∈ T16) (hy : y ∈ T16) (hc : c < 3) : normOk (joinF (keyOf x) (linkLead (ctN x) c ++ y)) = true ∧ normF (joinF (keyOf x) (linkLead (ctN x) c ++ y)) = keyOf y := by
  obtain ⟨a1, a2, a3⟩ := j_facts x hx c hc
  have a4 := (y_facts y hy).2.2.2
  rw [joinF_app a1]
  generalize joinF (keyOf x) (linkLead (ctN x) c) = J at a2 a3
  have hz : (J ++ y).length ≤ 90 := by rw [Str.length_append]; omega
  have one : (⟨#[46]⟩ : Str).length = 1 := rfl
  rcases a3 with h | ⟨h, g0, g1, gs⟩
  · refine norm_way (r := ⟨#[46]⟩ ++ y) hy (by rw [h]; exact str_list (by simp only [app_list]; rfl)) hz (by rw [Str.length_append]; omega) (by rw [app_list]; simp) rfl
  · generalize gOf J = G at h g0 g1 gs
    refine norm_way (r := (G ++ ⟨#[47]⟩) ++ (⟨#[46]⟩ ++ y)) hy (by rw [h]; simp only [str_assoc]) hz (by simp only [Str.length_append]; omega) ?_ ?_
    · rw [app_list, app_list, List.append_assoc, List.getElem?_append_left (by rw [Array.length_toList]; exact g0)]
      exact g1
    · rw [split_cat, List.foldl_append, gs]; rfl
end
/-! PlainH -/
section
open PySem.StrLaws PySem.Builtin PySem.Builtin.Str
/-- the texts of the five folders, by where the second, the third and the fourth lie -/
def textsT (a b c : Nat) : List Str := textsN (fun k => if k = 1 then a else if k = 2 then b else if k = 3 then c else 0) 4
theorem textsT_of {f : Nat → Nat} (h : f 0 = 0) : textsN f 4 = textsT (f 1) (f 2) (f 3) := by
  unfold textsT
  simp only [textsN, h]
  rfl
def atT (l : List Str) (j : Nat) : Str := (l[j]?).getD (Str.ofString "")
def lkOf (x : Str) (k : Nat) : Str := (x ++ Str.ofString "/") ++ ⟨#[108 + k]⟩
def upOf (a b c i : Nat) : Nat := ([0, 0, a, b, c][i]?).getD 0
theorem t_in : ∀ a, a < 2 → ∀ b, b < 3 → ∀ c, c < 4 → ∀ j, j < 5 → atT (textsT a b c) j ∈ T16 := by decide +kernel
theorem t_nd : ∀ a, a < 2 → ∀ b, b < 3 → ∀ c, c < 4 → ((List.range 5).map fun j => keyOf (atT (textsT a b c) j)).Nodup := by decide +kernel
theorem t_dir : ∀ a, a < 2 → ∀ b, b < 3 → ∀ c, c < 4 → ∀ i, i < 5 → 1 ≤ i → dirF (keyOf (atT (textsT a b c) i)) = keyOf (atT (textsT a b c) (upOf a b c i)) := by decide +kernel
theorem t_zero : ∀ a, a < 2 → ∀ b, b < 3 → ∀ c, c < 4 → keyOf (atT (textsT a b c) 0) = Str.ofString "/" := by decide +kernel
theorem x_small : ∀ x ∈ T16, x.length ≤ 9 ∧ (keyOf x).length ≤ 9 ∧ ctN x ≤ 4 ∧ Txt.count x (Str.ofString "/") = (ctN x : Int) := by decide +kernel
theorem x_dir : ∀ x ∈ T16, ∀ k, k < 3 → dirF (lkOf x k) = keyOf x ∧ (lkOf x k).cps.back? = some (108 + k) := by decide +kernel
theorem x_back : ∀ x ∈ T16, (keyOf x).cps.back? = some 47 ∨ (keyOf x).cps.back? = some 97 ∨ (keyOf x).cps.back? = some 98 ∨ (keyOf x).cps.back? = some 45 ∨ (keyOf x).cps.back? = some 99 := by decide +kernel
def ovF (nu : Nat → Nat) (k : Nat) : Nat := nu (4 + k) % (k + 1)
def txF (nu : Nat → Nat) (j : Nat) : Str := atT (textsN (ovF nu) 4) j
def cnF (nu : Nat → Nat) (j : Nat) : Nat := ctN (txF nu j)
def rtF (nu : Nat → Nat) (k : Nat) : Nat := 4095 - nu (3 + k) / 12 % 4096
def kyF (nu : Nat → Nat) (j : Nat) : Str := if j < 5 then foldKey (txF nu) j else linkKey (txF nu) nu (j - 5)
def lvF (nu : Nat → Nat) (j : Nat) : Str := linkVal (txF nu) (cnF nu) nu (j - 5)
def paF (nu : Nat → Nat) (j : Nat) : Nat := if j < 5 then upOf (ovF nu 1) (ovF nu 2) (ovF nu 3) j else nu (j - 5) % 5
def gtF (nu : Nat → Nat) (j : Nat) : Nat := if j < 5 then j else nu (j - 5) / 5 % 5
def stF (nu : Nat → Nat) : List (Nat × Nat) := ((List.range 4).map fun k => (ovF nu k, k + 1)) ++ ((List.range 3).map fun k => (nu k % 5, nu k / 5 % 5))
section
variable (nu : Nat → Nat)
theorem ov0 : ovF nu 0 = 0 := Nat.mod_one _
theorem ov_lt (k : Nat) : ovF nu k < k + 1 := Nat.mod_lt _ (Nat.succ_pos k)
theorem tx_eq (j : Nat) : txF nu j = atT (textsT (ovF nu 1) (ovF nu 2) (ovF nu 3)) j := by unfold txF; rw [textsT_of (ov0 nu)]
theorem tx_in {j : Nat} (hj : j < 5) : txF nu j ∈ T16 := by rw [tx_eq]; exact t_in _ (ov_lt nu 1) _ (ov_lt nu 2) _ (ov_lt nu 3) j hj
theorem fold_eq (j : Nat) : foldKey (txF nu) j = keyOf (txF nu j) := rfl
theorem link_eq (k : Nat) : linkKey (txF nu) nu k = lkOf (txF nu (nu k % 5)) k := rfl
theorem m5 (n : Nat) : n % 5 < 5 := Nat.mod_lt _ (by decide)
theorem link_back {k : Nat} (hk : k < 3) : (linkKey (txF nu) nu k).cps.back? = some (108 + k) := (x_dir _ (tx_in nu (m5 (nu k))) k hk).2
theorem txs_of : Txs (txF nu) (cnF nu) where
  len := fun j hj => by have := (x_small _ (tx_in nu hj)).1; omega
  cn := fun j hj => (x_small _ (tx_in nu hj)).2.2.2
  small := fun j hj => (x_small _ (tx_in nu hj)).2.2.1
theorem links_ne : ∀ i j, i < j → j < 3 → linkKey (txF nu) nu i ≠ linkKey (txF nu) nu j := fun i j hij hj e => by
  have h1 := link_back nu (k := i) (by omega)
  rw [e, link_back nu hj] at h1
  simp at h1
  omega
theorem keys_nd : ((List.range 5).map (foldKey (txF nu)) ++ (List.range 3).map (linkKey (txF nu) nu)).Nodup := by
  refine List.nodup_append.mpr ⟨?_, ?_, ?_⟩
  · have := t_nd _ (ov_lt nu 1) _ (ov_lt nu 2) _ (ov_lt nu 3)
    have e : (List.range 5).map (foldKey (txF nu)) = (List.range 5).map fun j => keyOf (atT (textsT (ovF nu 1) (ovF nu 2) (ovF nu 3)) j) := List.map_congr_left fun j _ => by rw [fold_eq, tx_eq]
    rw [e]; exact this
  · rw [List.nodup_iff_pairwise_ne, List.pairwise_map]
    refine List.Pairwise.imp_of_mem (fun {a b} ha hb hab => ?_) (List.pairwise_lt_range (n := 3))
    exact links_ne nu a b hab (List.mem_range.mp hb)
  · intro a ha b hb e
    subst e
    obtain ⟨j, hj, rfl⟩ := List.mem_map.mp ha
    obtain ⟨k, hk, e⟩ := List.mem_map.mp hb
    have h1 := link_back nu (List.mem_range.mp hk)
    rw [e, fold_eq] at h1
    rcases x_back _ (tx_in nu (List.mem_range.mp hj)) with q | q | q | q | q <;> rw [q] at h1 <;> simp at h1 <;> omega
theorem ky_map : (List.range 8).map (kyF nu) = (List.range 5).map (foldKey (txF nu)) ++ (List.range 3).map (linkKey (txF nu) nu) := rfl
theorem geo_of : Geo (kyF nu) (lvF nu) (paF nu) (gtF nu) (rtF nu) where
  nd := by rw [ky_map]; exact keys_nd nu
  k0 := by
    show foldKey (txF nu) 0 = _
    rw [fold_eq, tx_eq]
    exact t_zero _ (ov_lt nu 1) _ (ov_lt nu 2) _ (ov_lt nu 3)
  len := fun j hj => by
    unfold kyF
    split
    · rename_i h
      have := (x_small _ (tx_in nu h)).2.1
      rw [fold_eq]; omega
    · have := (x_small _ (tx_in nu (m5 (nu (j - 5))))).1
      unfold linkKey
      rw [Str.length_append, Str.length_append]
      have e1 : (Str.ofString "/").length = 1 := by decide
      have e2 : (⟨#[108 + (j - 5)]⟩ : Str).length = 1 := rfl
      omega
  dir := fun i h1 h8 => by
    have o1 := ov_lt nu 1
    have o2 := ov_lt nu 2
    have o3 := ov_lt nu 3
    by_cases h5 : i < 5
    · have e := t_dir _ o1 _ o2 _ o3 i h5 h1
      have hp : paF nu i = upOf (ovF nu 1) (ovF nu 2) (ovF nu 3) i := if_pos h5
      have hp5 : paF nu i < 5 := by
        rw [hp]
        have e5 : i = 1 ∨ i = 2 ∨ i = 3 ∨ i = 4 := by omega
        rcases e5 with rfl | rfl | rfl | rfl
        · exact (by decide : 0 < 5)
        · show ovF nu 1 < 5; omega
        · show ovF nu 2 < 5; omega
        · show ovF nu 3 < 5; omega
      have k1 : kyF nu i = keyOf (txF nu i) := if_pos h5
      have k2 : kyF nu (paF nu i) = keyOf (txF nu (paF nu i)) := if_pos hp5
      rw [k1, k2, tx_eq, tx_eq, hp]
      exact e
    · have k1 : kyF nu i = lkOf (txF nu (nu (i - 5) % 5)) (i - 5) := if_neg h5
      have hp : paF nu i = nu (i - 5) % 5 := if_neg h5
      have k2 : kyF nu (paF nu i) = keyOf (txF nu (paF nu i)) := if_pos (by rw [hp]; exact m5 _)
      rw [k1, k2, hp]
      exact (x_dir _ (tx_in nu (m5 _)) (i - 5) (by omega)).1
  par5 := fun i hi => by
    have o1 := ov_lt nu 1
    have o2 := ov_lt nu 2
    have o3 := ov_lt nu 3
    unfold paF
    split
    · have e5 : i = 0 ∨ i = 1 ∨ i = 2 ∨ i = 3 ∨ i = 4 := by omega
      rcases e5 with rfl | rfl | rfl | rfl | rfl
      · exact (by decide : 0 < 5)
      · exact (by decide : 0 < 5)
      · show ovF nu 1 < 5; omega
      · show ovF nu 2 < 5; omega
      · show ovF nu 3 < 5; omega
    · exact m5 _
  goF := fun i hi => if_pos hi
  go5 := fun i hi => by
    unfold gtF
    split
    · assumption
    · exact m5 _
  lvz := fun i h5 h8 => by
    unfold lvF linkVal
    rw [Str.length_append]
    have := linkLead_small (cnF nu (nu (i - 5) % 5)) (nu (i - 5) / 25 % 3) ((x_small _ (tx_in nu (m5 (nu (i - 5))))).2.2.1)
    have := (x_small _ (tx_in nu (m5 (nu (i - 5) / 5)))).1
    omega
  nok := fun i h5 h8 => by
    have hp : paF nu i = nu (i - 5) % 5 := if_neg (by omega)
    have k2 : kyF nu (paF nu i) = keyOf (txF nu (paF nu i)) := if_pos (by rw [hp]; exact m5 _)
    rw [k2, hp]
    exact (x_norm (tx_in nu (m5 _)) (tx_in nu (m5 _)) (Nat.mod_lt _ (by decide))).1
  norm := fun i h5 h8 => by
    have hp : paF nu i = nu (i - 5) % 5 := if_neg (by omega)
    have k2 : kyF nu (paF nu i) = keyOf (txF nu (paF nu i)) := if_pos (by rw [hp]; exact m5 _)
    have hg : gtF nu i = nu (i - 5) / 5 % 5 := if_neg (by omega)
    have k3 : kyF nu (gtF nu i) = keyOf (txF nu (gtF nu i)) := if_pos (by rw [hg]; exact m5 _)
    rw [k2, k3, hp, hg]
    exact (x_norm (tx_in nu (m5 _)) (tx_in nu (m5 _)) (Nat.mod_lt _ (by decide))).2
  r12 := fun j _ => by unfold rtF; omega
theorem st_iff (p q : Nat) : (p, q) ∈ stF nu ↔ ∃ i, 0 < i ∧ i < 8 ∧ paF nu i = p ∧ gtF nu i = q := by
  unfold stF
  rw [List.mem_append, List.mem_map, List.mem_map]
  constructor
  · rintro (⟨k, hk, e⟩ | ⟨k, hk, e⟩)
    · have hk := List.mem_range.mp hk
      cases e
      refine ⟨k + 1, by omega, by omega, ?_, ?_⟩
      · unfold paF
        rw [if_pos (by omega)]
        have e5 : k = 0 ∨ k = 1 ∨ k = 2 ∨ k = 3 := by omega
        rcases e5 with rfl | rfl | rfl | rfl
        · exact (ov0 nu).symm
        · rfl
        · rfl
        · rfl
      · unfold gtF
        rw [if_pos (by omega)]
    · have hk := List.mem_range.mp hk
      cases e
      refine ⟨k + 5, by omega, by omega, ?_, ?_⟩
      · unfold paF
        rw [if_neg (by omega), Nat.add_sub_cancel]
      · unfold gtF
        rw [if_neg (by omega), Nat.add_sub_cancel]
  · rintro ⟨i, h0, h8, rfl, rfl⟩
    by_cases h5 : i < 5
    · left
      refine ⟨i - 1, List.mem_range.mpr (by omega), ?_⟩
      unfold paF gtF
      rw [if_pos h5, if_pos h5]
      have e5 : i = 1 ∨ i = 2 ∨ i = 3 ∨ i = 4 := by omega
      rcases e5 with rfl | rfl | rfl | rfl
      · exact congrArg (fun x => (x, 1)) (ov0 nu)
      · rfl
      · rfl
      · rfl
    · right
      refine ⟨i - 5, List.mem_range.mpr (by omega), ?_⟩
      unfold paF gtF
      rw [if_neg h5, if_neg h5]
theorem pa1 : paF nu 1 = 0 := rfl
theorem pa2 : paF nu 2 ≤ 1 := by
  have := ov_lt nu 1
  show ovF nu 1 ≤ 1
  omega
/-- the plain side of this law's run -/
theorem plain_of : Plain (paF nu) (gtF nu) (rtF nu) (fun es gs ls => InvN (paF nu) (gtF nu) (rtF nu) (atN (reachN (rtF nu) (stF nu) 5)) es gs ls ∧ CntN (paF nu) (rtF nu) (atN (reachN (rtF nu) (stF nu) 5)) es gs ls) muN :=
  plainC (geo_of nu).go5 (geo_of nu).r12 (plain_closed (geo_of nu).par5 (geo_of nu).go5 (st_iff nu)) (geo_of nu).par5 (pa1 nu) (pa2 nu) rfl reach_in
theorem atN_map {l : List Nat} (hl : l.length = 5) : l = (List.range 5).map fun j => atN l j := by
  refine List.ext_getElem? fun j => ?_
  rw [List.getElem?_map]
  by_cases hj : j < 5
  · rw [List.getElem?_range hj]
    have e : l[j]? = some l[j] := List.getElem?_eq_getElem (by omega)
    rw [e, Option.map_some]
    unfold atN
    rw [e]; rfl
  · rw [List.getElem?_eq_none (by omega), List.getElem?_eq_none (by simp; omega)]; rfl
/-- what the bag leaves -/
theorem law_end {gs : Nat → Nat} {ls : List Int} (h : InvN (paF nu) (gtF nu) (rtF nu) (atN (reachN (rtF nu) (stF nu) 5)) [] gs ls ∧ CntN (paF nu) (rtF nu) (atN (reachN (rtF nu) (stF nu) 5)) [] gs ls) :
    ((List.range 5).map fun j => fmF ((16384 : Int) + (gs j : Int))) = (reachN (rtF nu) (stF nu) 5).map (fun n => signN n 3) ∧ ls.Pairwise (· ≤ ·) ∧ ls.length ≤ 63 := by
  obtain ⟨h1, h2⟩ := plain_end (geo_of nu).par5 (st_iff nu) h.1
  refine ⟨?_, h2, cnt_end h.2⟩
  have e := atN_map (reachN_len (rtF nu) (stF nu) 5)
  have hg : ∀ j, gs j ≤ 4095 := fun j => (h.1.g j).1
  clear h
  generalize reachN (rtF nu) (stF nu) 5 = R at e h1
  rw [e, List.map_map]
  refine List.map_congr_left fun j _ => ?_
  show fmF ((16384 : Int) + (gs j : Int)) = signN (atN R j) 3
  rw [← h1 j, ← fm_sign (g := gs j) (by have := hg j; omega), Int.natCast_add]
  rfl
end
end
/-! LawG -/
section
theorem intsAre_values : ∀ ll : List (Int × Tok), IntsAre (intValues ll) (ll.map (·.1))
  | [] => .nil
  | (n, t) :: ll => .cons n t (intsAre_values ll)
theorem sorted_same : ∀ {xs ys : List Int}, xs.Perm ys → xs.Pairwise (· ≤ ·) → ys.Pairwise (· ≤ ·) → xs = ys
  | [], ys, h, _, _ => (List.nil_perm.mp h).symm
  | x :: xs, [], h, _, _ => absurd h.length_eq (by simp)
  | x :: xs, y :: ys, h, hx, hy => by
    have e : x = y := by
      have h1 : x ∈ y :: ys := h.mem_iff.mp (.head _)
      have h2 : y ∈ x :: xs := h.mem_iff.mpr (.head _)
      rcases List.mem_cons.mp h1 with e | h1
      · exact e
      rcases List.mem_cons.mp h2 with e | h2
      · exact e.symm
      exact Int.le_antisymm ((List.pairwise_cons.mp hx).1 y h2) ((List.pairwise_cons.mp hy).1 x h1)
    subst e
    rw [sorted_same ((List.perm_cons x).mp h) (List.pairwise_cons.mp hx).2 (List.pairwise_cons.mp hy).2]
section
variable {prog : Program} {w : World} {A : Around} {E : Value → Shared → Prop} {s : Shared} {g : Heap} {L : Addr} {m : Str → Option Value} {led : Lg} {Q : Value → Shared → Prop}
theorem sortedC {l : Addr} {ll : List (Int × Tok)} (F : Fm g L s.heap m) (N : Led g L s.heap led) (hl : s.heap.IsList l (intValues ll).toArray) (hz : ll.length ≤ 63) (hp : (ll.map (·.1)).Pairwise (· ≤ ·))
    (h : ∀ a h' l2, Fm g L h' m → Led g L h' led → h'.IsList a (intValues l2).toArray → l2.map (·.1) = ll.map (·.1) → Q (.ref a) { s with heap := h' }) :
    wpAny (model prog w) A (call (.builtin "sorted") [.ref l]) Q E s := by
  refine sorted_ints hl (intsAre_values ll) (by rw [intValues_len]; omega) fun out ns' h1 h2 h3 => ?_
  have hs : Sub s.heap (sortedAll s.heap (intValues ll) out) := fun b o e => sortedAll_old e
  obtain ⟨e, he⟩ := sortedAll_at s.heap (intValues ll) out
  obtain ⟨l2, e1, e2⟩ := intValues_of h1
  refine h _ _ l2 (F.sub hs) (N.sub hs) ⟨_, he, rfl, e, by rw [← e1]⟩ (e2.trans (sorted_same h2 h3 hp))
theorem eqI {l b : Addr} {l1 l2 : List (Int × Tok)} (hl : s.heap.IsList l (intValues l1).toArray) (hb : s.heap.IsList b (intValues l2).toArray) (he : l1.map (·.1) = l2.map (·.1)) (hu : A.units < cLine) (h : Q (.bool true) s) :
    wpAny (model prog w) A (compareOp .Eq (.ref l) (.ref b)) Q E s := by
  have hlen : l1.length = l2.length := by simpa using congrArg List.length he
  refine SeqAt.eq_listAt (e := fun _ => true) hl hb (by simp [intValues_len, hlen]) hu (fun j h1 h2 => ?_) (by have e : ((List.range (intValues l1).toArray.size).all fun _ => true) = true := List.all_eq_true.mpr fun _ _ => rfl; rw [e]; exact h)
  have hj : j < l1.length := by simpa [intValues_len] using h1
  have e1 : (l1.map (·.1))[j]? = some l1[j].1 := by rw [List.getElem?_map, List.getElem?_eq_getElem hj]; rfl
  have e2 : (l2.map (·.1))[j]? = some l2[j].1 := by rw [List.getElem?_map, List.getElem?_eq_getElem (by omega)]; rfl
  rw [he, e2] at e1
  have e3 : l2[j].1 = l1[j].1 := Option.some.inj e1
  have := SeqAt.EqAt.int_int (A := A.in1) (s := s) l1[j].1 l1[j].2 l2[j].1 l2[j].2
  rw [e3] at this
  simpa [intValues, e3] using this
theorem eqS {l b : Addr} {l1 l2 : List (Str × Tok)} (hl : s.heap.IsList l (strValues l1).toArray) (hb : s.heap.IsList b (strValues l2).toArray) (he : l1.map (·.1) = l2.map (·.1)) (hu : A.units < cLine) (h : Q (.bool true) s) :
    wpAny (model prog w) A (compareOp .Eq (.ref l) (.ref b)) Q E s := by
  have hlen : l1.length = l2.length := by simpa using congrArg List.length he
  refine SeqAt.eq_listAt (e := fun _ => true) hl hb (by simp [strValues, hlen]) hu (fun j h1 h2 => ?_) (by have e : ((List.range (strValues l1).toArray.size).all fun _ => true) = true := List.all_eq_true.mpr fun _ _ => rfl; rw [e]; exact h)
  have hj : j < l1.length := by simpa [strValues] using h1
  have e1 : (l1.map (·.1))[j]? = some l1[j].1 := by rw [List.getElem?_map, List.getElem?_eq_getElem hj]; rfl
  have e2 : (l2.map (·.1))[j]? = some l2[j].1 := by rw [List.getElem?_map, List.getElem?_eq_getElem (by omega)]; rfl
  rw [he, e2] at e1
  have e3 : l2[j].1 = l1[j].1 := Option.some.inj e1
  have := SeqAt.EqAt.str_str (A := A.in1) (s := s) l1[j].1 l1[j].2 l2[j].1 l2[j].2
  rw [e3] at this
  simpa [strValues, e3] using this
end
/-- the eight numbers -/
def nuN (ns : List Int) (k : Nat) : Nat := ((lawNums ns)[k]?.getD 0).toNat
theorem lawNums_len (ns : List Int) : (lawNums ns).length = 8 := by
  unfold lawNums
  simp only [List.length_append, List.length_map, List.length_take, List.length_drop, List.length_cons, List.length_nil]
  omega
theorem lawNums_pos (ns : List Int) : ∀ n ∈ lawNums ns, 0 ≤ n := by
  intro n hn
  unfold lawNums at hn
  rcases List.mem_append.mp hn with hn | hn
  · obtain ⟨m, _, rfl⟩ := List.mem_map.mp hn
    exact Int.fmod_nonneg_of_pos m (by decide)
  · have := List.mem_of_mem_drop hn
    simp only [List.mem_cons, List.not_mem_nil, or_false] at this
    omega
theorem lawNums_map (ns : List Int) : lawNums ns = (List.range 8).map fun k => (nuN ns k : Int) := by
  refine List.ext_getElem? fun k => ?_
  rw [List.getElem?_map]
  have hl := lawNums_len ns
  by_cases hk : k < 8
  · rw [List.getElem?_range hk, Option.map_some]
    have e : (lawNums ns)[k]? = some (lawNums ns)[k] := List.getElem?_eq_getElem (by omega)
    unfold nuN
    rw [e, Option.getD_some]
    have := lawNums_pos ns _ (List.getElem_mem (l := lawNums ns) (n := k) (by omega))
    rw [Int.toNat_of_nonneg this]
  · rw [List.getElem?_eq_none (by omega), List.getElem?_eq_none (by simp; omega)]; rfl
end
/-! LawH -/
section
theorem ne_sys {g h : Heap} {a : Addr} (k : Sub g h) (hs : ∃ o, g.get? sysModules = some o) (ha : h.get? a = none) : (a == sysModules) = false := by
  rw [beq_eq_false_iff_ne]
  rintro rfl
  obtain ⟨o, e⟩ := hs
  rw [k _ _ e] at ha
  cases ha
theorem refix {g h h' : Heap} {L : Addr} {m : Str → Option Value} {led : Lg} (F : Fm g L h m) (N : Led g L h led) (k : Sub h h') :
    ∃ g', Fm g' L h' m ∧ Led g' L h' [] ∧ Sub g g' ∧ ∀ a P, h.get? a = none → Has h' a P → Has g' a P := by
  have F1 := F.sub k
  obtain ⟨g1, F2, N2, k1, _⟩ := freeze led (led := []) F1 (by simpa using N.sub k)
  obtain ⟨g2, F3, N3, k2, q2⟩ := refreeze F2 N2
  refine ⟨g2, F3, N3, k1.trans k2, fun a P ha hP => ?_⟩
  obtain ⟨o, ho, hp⟩ := hP
  refine ⟨o, q2 a o ?_ (by simp) ho, hp⟩
  rintro rfl
  obtain ⟨oL, _, _, e, _⟩ := F.ns
  rw [ha] at e
  cases e
theorem tx_map (nu : Nat → Nat) : textsN (ovF nu) 4 = (List.range 5).map (txF nu) := by
  refine List.ext_getElem? fun j => ?_
  rw [List.getElem?_map]
  have hl := textsN_length (ovF nu) 4
  by_cases hj : j < 5
  · rw [List.getElem?_range hj, Option.map_some]
    unfold txF atT
    rw [List.getElem?_eq_getElem (by omega)]; rfl
  · rw [List.getElem?_eq_none (by omega), List.getElem?_eq_none (by simp; omega)]; rfl
theorem natVals_int (lR : List (Nat × Tok)) : natVals lR = intValues (lR.map fun p => ((p.1 : Int), p.2)) := by unfold natVals intValues; rw [List.map_map]; rfl
section
variable {prog : Program} {w : World} {A : Around} {E : Value → Shared → Prop} {s : Shared} {hT : Heap} {mg mb : Str → Option Value} {Q : Value → Shared → Prop}
theorem law_spec {sc : Addr} {l : List (Int × Tok)} (O : Ok w mg mb hT) (kT : Sub hT s.heap) (R : Room A 8) (hl : s.heap.IsList sc (intValues l).toArray) (hz : l.length ≤ 63) (hsm : ∃ o, s.heap.get? sysModules = some o)
    (h : ∀ h' tk', Sub s.heap h' → Q (.bool true) { s with heap := h', toks := tk' }) :
    wpAny (model prog w) A (call (.ref 275) [.ref sc]) Q E s := by
  have hsl : sizeLine = 16777216 := rfl
  refine enterC [(Str.ofString "script", .ref sc)] O kT rfl rfl R.depth rfl (by intro n x hx; simp only [List.mem_cons, List.not_mem_nil, or_false] at hx; rcases hx with rfl; exact Or.inl (by with_unfolding_all rfl)) (by with_unfolding_all decide) ?_
  intro L h₁ tk O' F N
  replace F : Fm (hideAll s.heap []) L h₁ (fun y => if y = Str.ofString "script" then some (.ref sc) else ov [] (fun _ => none) y) := by with_unfolding_all exact F
  rw [ov_set] at F
  replace N : Led (hideAll s.heap []) L h₁ [(L + 2, isCell none), (L + 1, isCell none)] := by with_unfolding_all exact N
  have LC := lcells
  have LS := lslice
  have hl1 := hide_lst hl
  have hsm1 : ∃ o, (hideAll s.heap []).get? sysModules = some o := let ⟨o, e⟩ := hsm; ⟨o, hideAll_get [] e (by simp)⟩
  refine wpAny_execs_cons ?_
  refine wpAny_Assign_Name ?_ (by with_unfolding_all rfl)
  refine Call_ ?_ (by with_unfolding_all rfl)
  refine qgl (gn_law_numbers _) ?_
  refine qfn (kp_law_numbers _) ?_
  refine args_cons ?_ (by with_unfolding_all rfl)
  refine qlo ?_
  refine args_nil ?_
  refine ⟨Fm.keep (by assumption), ?_⟩
  dsimp only
  refine numbers_spec O' F.keep (by walk_at "room") (F.lst hl1) hz ?_
  intro h2 tk2 NA lN k2 hf2 HN hlN
  have F2 := F.sub k2
  have N2 := N.grow F k2 hf2 HN
  clear F N
  dsimp only
  refine stoc (c := L + 1) (by with_unfolding_all rfl) (N2.get 2 rfl) ?_ (by with_unfolding_all rfl) (by with_unfolding_all rfl)
  intro h3 H3 k3
  have F3 := F2.upd (N2.ne 2 rfl) (N2.off 2 rfl) k3
  have N3 := N2.upd 2 rfl k3 H3
  clear F2 N2
  obtain ⟨g4, F4, N4, k4, q4⟩ := freeze [(NA, isLst (intValues lN)), (L + 1, isCell (some (.ref NA)))] (led := [(L + 2, isCell none)]) F3 (Led.sel N3 (by
    intro p hp
    simp only [List.cons_append, List.nil_append, List.mem_cons, List.not_mem_nil, or_false] at hp ⊢
    rcases hp with rfl | rfl | rfl <;> simp [List.set]) (by
    have := N3.nd
    simp only [List.set, List.map_cons, List.map_nil, List.nodup_cons, List.mem_cons, List.not_mem_nil, or_false, not_or, List.cons_append, List.nil_append] at this ⊢
    grind))
  have hNA : Has g4 NA (isLst (intValues lN)) := q4 _ (.head _)
  have hC1 : Has g4 (L + 1) (isCell (some (.ref NA))) := q4 _ (.tail _ (.head _))
  have O4 := O'.keeps k4
  clear q4 F3 N3 O' HN H3 k3 hf2 k2
  have hN8 : lN.map (·.1) = (List.range 8).map fun k => (nuN (l.map (·.1)) k : Int) := hlN.trans (lawNums_map _)
  generalize nuN (l.map (·.1)) = nu at hN8
  clear hlN hl hl1
  have hNz : lN.length = 8 := by simpa using congrArg List.length hN8
  have hNg : ∀ j, j < 8 → ∃ t, (intValues lN)[j]? = some (.int (nu j : Int) t) := fun j hj => intValues_get hN8 (by rw [List.getElem?_map, List.getElem?_range hj]; rfl)
  have FC := fcells
  refine wpAny_execs_cons ?_
  refine wpAny_Assign_Name ?_ (by with_unfolding_all rfl)
  dsimp only
  refine lcomp_eval (cl := [(Str.ofString "numbers", L + 1)]) (by with_unfolding_all rfl) (by with_unfolding_all decide) (by with_unfolding_all rfl) (by with_unfolding_all decide) (by with_unfolding_all rfl) ?_ (by intro _; with_unfolding_all rfl)
  refine Call_ ?_ (by with_unfolding_all rfl)
  refine qbl (gn_range _) boot_range ?_
  refine Pv.callWith_type1 ?_ (by with_unfolding_all rfl) (by with_unfolding_all rfl)
  refine args_cons ?_ (by with_unfolding_all rfl)
  refine cst_int ?_; intro t' k'
  refine args_nil ?_
  refine rangeC (by assumption) (by assumption) ?_; intro a' h' t1' t3' tk' F' N' H'
  dsimp only
  refine src_rng R.hh (n := 4) (by decide) H' F' N' ?_
  intro it h5 tk5 hS
  refine ⟨g4, _, _, _, _, (fun i _ ys => ∃ lo : List (Int × Tok), ys = intValues lo ∧ lo.map (·.1) = (List.range i).map fun k => (ovF nu k : Int)), hS, by omega, ⟨[], rfl, rfl⟩, ?_, ?_⟩
  · intro i v h6 tk6 g6 gI C u ys hi hv k6 kI hp hlen F6 N6
    obtain ⟨t, rfl⟩ := hv
    obtain ⟨lo, rfl, hlo⟩ := hp
    have hNI := (k6.trans kI).has hNA
    have hCI := (k6.trans kI).has hC1
    obtain ⟨tn, htn⟩ := hNg (4 + i) (by omega)
    rw [List.forIn_nil]
    refine wpAny_pure ?_
    rw [if_pos rfl]
    refine wpAny_BinOp ?_
    refine Subscript_ ?_
    refine qfc ?_
    refine wpAny_BinOp ?_
    refine cst_int ?_; intro t' k'
    refine qlo ?_
    refine addI ?_; intro t' k'
    dsimp only
    rw [show (4 : Int) + (i : Int) = ((4 + i : Nat) : Int) by omega]
    refine item_lstN (F6.keep.has hNI).list (by rw [intValues_len]; omega) htn ?_
    refine wpAny_BinOp ?_
    refine qlo ?_
    refine cst_int ?_; intro t' k'
    refine addI ?_; intro t' k'
    dsimp only
    rw [show (i : Int) + 1 = ((i + 1 : Nat) : Int) from rfl]
    refine modN (by omega) ?_; intro t7 tk7
    refine ⟨_, _, _, [], rfl, F6, N6, fun g5 _ _ => ⟨_, intValues_snoc, ?_⟩⟩
    rw [List.map_append, hlo, List.range_succ, List.map_append]; rfl
  rintro D h6 tk6 g6 ys k6 ⟨lo, rfl, hlo⟩ F6 N6
  dsimp only
  refine stoc (c := L + 2) (by with_unfolding_all rfl) (N6.get 1 rfl) ?_ (by with_unfolding_all rfl) (by with_unfolding_all rfl)
  intro h7 H7 k7
  have F7 := F6.upd (N6.ne 1 rfl) (N6.off 1 rfl) k7
  have N7 := N6.upd 1 rfl k7 H7
  obtain ⟨g8, F8, N8, k8, q8⟩ := freeze [(D, isLst (intValues lo)), (L + 2, isCell (some (.ref D)))] (led := []) F7 N7
  have hOV : Has g8 D (isLst (intValues lo)) := q8 _ (.head _)
  have hC2 : Has g8 (L + 2) (isCell (some (.ref D))) := q8 _ (.tail _ (.head _))
  have hNA8 := (k6.trans k8).has hNA
  have hC18 := (k6.trans k8).has hC1
  have O8 := O4.keeps (k6.trans k8)
  have k08 := k4.trans (k6.trans k8)
  clear q8 hNA hC1 F6 N6 F7 N7 hS F' N' H' F4 N4 O4 H7 k7
  replace F8 : Fm g8 L h7 (ov [(Str.ofString "script", .ref sc)] fun _ => none) := F8
  replace N8 : Led g8 L h7 [] := N8
  skip
  refine wpAny_execs_cons ?_
  refine lcomp_asg (cl := []) (by with_unfolding_all rfl) (by with_unfolding_all rfl) (by with_unfolding_all decide) (by with_unfolding_all rfl) (by with_unfolding_all decide) (by with_unfolding_all rfl) ?_ (by intro _; with_unfolding_all rfl)
  refine sub_slice_lst ?_ (by intro _ _; with_unfolding_all rfl)
  refine qfc ?_
  refine part_some ?_
  refine cst_int ?_; intro t' k'
  refine part_none ?_
  dsimp only
  refine ll_from (b := 3) (by assumption) (by assumption) (F8.keep.has hNA8).list (by rw [intValues_len]; omega) (by rw [intValues_len]; omega) ?_
  intro a9 h9 F9 N9
  obtain ⟨g9, F9, N9, k9, q9⟩ := freeze [(a9, _)] (led := []) F9 N9
  have hx9 := (q9 _ (.head _)).list
  refine src_list R.hh hx9 F9 N9 ?_
  intro it h10 tk10 hS
  refine ⟨g9, _, [], _, _, (fun i _ ys => ∃ lR : List (Nat × Tok), ys = natVals lR ∧ lR.map (·.1) = (List.range i).map (rtF nu)), hS, ?_, ⟨[], rfl, rfl⟩, ?_, ?_⟩
  · rw [List.length_drop, intValues_len]; omega
  · intro i v h11 tk11 g11 gI C u ys hi hv k11 kI hp hlen F11 N11
    obtain ⟨lR, rfl, hlR⟩ := hp
    rw [List.length_drop, intValues_len] at hi
    obtain ⟨tn, htn⟩ := hNg (3 + i) (by omega)
    rw [List.getElem?_drop, htn] at hv
    cases hv
    rw [List.forIn_nil]
    refine wpAny_pure ?_
    rw [if_pos rfl]
    refine wpAny_BinOp ?_
    refine cst_int ?_; intro t' k'
    refine wpAny_BinOp ?_
    refine wpAny_BinOp ?_
    refine qlo ?_
    refine cst_int ?_; intro t' k'
    dsimp only
    refine divN (by decide) (by decide) ?_; intro t12 tk12
    refine cst_int ?_; intro t' k'
    dsimp only
    refine modN (by decide) ?_; intro t13 tk13
    refine subI ?_; intro t' k'
    rw [show (4095 : Int) - ((nu (3 + i) / 12 % 4096 : Nat) : Int) = (rtF nu i : Int) by unfold rtF; omega]
    refine ⟨_, _, _, [], rfl, F11, N11, fun g5 _ _ => ⟨lR ++ [(rtF nu i, _)], by unfold natVals; rw [List.map_append]; rfl, ?_⟩⟩
    rw [List.map_append, hlR, List.range_succ, List.map_append]; rfl
  rintro C RT h11 tk11 g11 ys mC k11 ⟨lR, rfl, hlR⟩ F11 N11 hC hCL hCD hCl hnC
  refine comp_sto F11 N11 hC hCL (by simpa using hCD) hnC ?_ (by with_unfolding_all rfl) (by with_unfolding_all rfl)
  intro h12 tk12 F12 N12
  obtain ⟨g12, F12, N12, k12, q12⟩ := freeze [(RT, isLst (natVals lR))] (led := []) F12 N12
  have hRT : Has g12 RT (isLst (natVals lR)) := q12 _ (.head _)
  replace F12 : Fm g12 L h12 (ov [(Str.ofString "rights", .ref RT), (Str.ofString "script", .ref sc)] fun _ => none) := F12
  replace N12 : Led g12 L h12 [] := N12
  rw [List.length_drop, intValues_len, hNz] at hlR
  have kA := k9.trans (k11.trans k12)
  have hOV12 := kA.has hOV
  have hC212 := kA.has hC2
  have hNA12 := kA.has hNA8
  have hC112 := kA.has hC18
  have O12 := O8.keeps kA
  have k012 := k08.trans kA
  clear q12 q9 hx9 hS F11 N11 hC hCL hCD hCl hnC N9 F9 F8 N8 O8 hOV hC2 hNA8 hC18 k9 k11 k12 kA k08
  have hRz : lR.length = 5 := by simpa using congrArg List.length hlR
  have hlRI : (lR.map fun p => ((p.1 : Int), p.2)).map (·.1) = (List.range 5).map fun k => (rtF nu k : Int) := by
    have := congrArg (List.map (fun n : Nat => (n : Int))) hlR
    simpa [Function.comp_def] using this
  refine wpAny_execs_cons ?_
  refine wpAny_Assign_Name ?_ (by with_unfolding_all rfl)
  refine Call_ ?_ (by with_unfolding_all rfl)
  refine qgl (gn_law_texts _) ?_
  refine qfn (kp_law_texts _) ?_
  refine args_cons ?_ (by with_unfolding_all rfl)
  refine qfc ?_
  refine args_nil ?_
  refine ⟨Fm.keep (by assumption), ?_⟩
  dsimp only
  refine texts_spec (f := ovF nu) O12 F12.keep (by walk_at "room") (F12.keep.has hOV12).list (by rw [hlo]; rfl) (fun k _ => Nat.le_of_lt_succ (ov_lt nu k)) ?_
  intro h13 tk13 TX lT k13 hf13 HT hlT
  have F13 := F12.sub k13
  have N13 := N12.grow F12 k13 hf13 HT
  clear HT hf13 N12
  rw [tx_map] at hlT
  refine qst ?_; intro h' tk' F' N'
  refine wpAny_execs_cons ?_
  refine wpAny_Assign_Name ?_ (by with_unfolding_all rfl)
  refine Call_ ?_ (by with_unfolding_all rfl)
  refine qgl (gn_law_links _) ?_
  refine qfn (kp_law_links _) ?_
  refine args_cons ?_ (by with_unfolding_all rfl)
  refine qfc ?_
  refine args_cons ?_ (by with_unfolding_all rfl)
  refine qlo ?_
  refine args_nil ?_
  refine ⟨Fm.keep (by assumption), ?_⟩
  dsimp only
  refine links_spec O12 F'.keep (by walk_at "room") (F'.keep.has hNA12).list (N'.get 0 rfl).list hN8 hlT (txs_of nu) (links_ne nu) ?_
  intro h14 tk14 LL lL k14 hf14 HL hlL
  have F14 := F'.sub k14
  have N14 := N'.grow F' k14 hf14 HL
  have hsLL : (LL == sysModules) = false := ne_sys (k012.trans F'.keep) hsm1 hf14
  clear HL hf14 N13 F13 N'
  refine qst ?_; intro h' tk' F' N'
  refine wpAny_execs_cons ?_
  refine Assign_Tuple ?_ (by with_unfolding_all rfl) (by with_unfolding_all rfl)
  refine Call_ ?_ (by with_unfolding_all rfl)
  refine qgl (gn_law_gained _) ?_
  refine qfn (kp_law_gained _) ?_
  refine args_cons ?_ (by with_unfolding_all rfl)
  refine Call_ ?_ (by with_unfolding_all rfl)
  refine qgl (gn_law_modes _) ?_
  refine qfn (kp_law_modes _) ?_
  refine args_cons ?_ (by with_unfolding_all rfl)
  refine qlo ?_
  refine args_cons ?_ (by with_unfolding_all rfl)
  refine qlo ?_
  refine args_cons ?_ (by with_unfolding_all rfl)
  refine qlo ?_
  refine args_nil ?_
  refine ⟨Fm.keep (by assumption), ?_⟩
  dsimp only
  refine modes_spec (tx := txF nu) (lk := linkKey (txF nu) nu) (r := rtF nu) O12 F'.keep (by walk_at "room") (N'.get 1 rfl).list (by rw [← natVals_int]; exact (F'.keep.has hRT).list) (N'.get 0 rfl) hsLL hlT hlRI (by have := congrArg (List.map (·.1)) hlL; simpa [Function.comp_def] using this) (fun j hj => (txs_of nu).len j hj) (keys_nd nu) ?_
  intro h15 tk15 MD lM k15 hf15 HM hlM
  have F15 := F'.sub k15
  have N15 := N'.grow F' k15 hf15 HM
  have hsMD : (MD == sysModules) = false := ne_sys (k012.trans F'.keep) hsm1 hf15
  clear HM hf15 N14 F14 N' F'
  refine args_cons ?_ (by with_unfolding_all rfl)
  refine qlo ?_
  refine args_nil ?_
  refine ⟨Fm.keep (by assumption), ?_⟩
  dsimp only
  have hlM8 : lM.map (fun p => (p.1, p.2.1)) = (List.range 8).map fun j => (kyF nu j, (md (rtF nu) j : Int)) := hlM
  have hlL3 : lL.map (fun p => (p.1, p.2.1)) = (List.range 3).map fun k => (kyF nu (5 + k), lvF nu (5 + k)) := hlL
  refine gained_spec (plain_of nu) (geo_of nu) O12 F15.keep (by walk_at "room") (N15.get 0 rfl) (N15.get 1 rfl) hsMD hsLL hlM8 hlL3 ?_
  intro h16 tk16 a16 TA KA lt ll gs ls k16 ha hTA hKA hfa hfta hfka hlt hll hInv
  obtain ⟨he, hsrt, hz63⟩ := law_end nu hInv
  clear hInv
  subst hll
  obtain ⟨g17, F17, N17, k17, q17⟩ := refix F15 N15 k16
  have hTA17 := q17 _ _ hfta hTA
  have hKA17 := q17 _ _ hfka hKA
  have hRT17 := k17.has hRT
  have hOV17 := k17.has hOV12
  have hC217 := k17.has hC212
  have hNA17 := k17.has hNA12
  have hC117 := k17.has hC112
  have O17 := O12.keeps k17
  have k017 := k012.trans k17
  clear q17 hfa hfta hfka hTA hKA F15 N15 k16 k17 hRT hOV12 hC212 hNA12 hC112 O12 k012 hsLL hsMD hlM hlM8 hlL hlL3 hlT k15 k14 k13 hlRI
  refine asg2 F17 N17 R.hh ⟨_, ha.tup, rfl, 0, rfl⟩ ?_ (by with_unfolding_all rfl) (by with_unfolding_all rfl)
  clear F17 N17
  intro h' F' N'
  refine wpAny_assign_Name ?_
  refine qst ?_; intro h' tk' F' N'
  refine wpAny_assign_Name ?_
  refine qst ?_; intro h' tk' F' N'
  refine wpAny_execs_cons ?_
  refine wpAny_Assign_Name ?_ (by with_unfolding_all rfl)
  refine wpAny_BinOp ?_
  dsimp only
  refine lcomp_eval (cl := [(Str.ofString "overs", L + 2)]) (by with_unfolding_all rfl) (by with_unfolding_all decide) (by with_unfolding_all rfl) (by with_unfolding_all decide) (by with_unfolding_all rfl) ?_ (by intro _; with_unfolding_all rfl)
  refine Call_ ?_ (by with_unfolding_all rfl)
  refine qbl (gn_range _) boot_range ?_
  refine Pv.callWith_type1 ?_ (by with_unfolding_all rfl) (by with_unfolding_all rfl)
  refine args_cons ?_ (by with_unfolding_all rfl)
  refine cst_int ?_; intro t' k'
  refine args_nil ?_
  refine rangeC (by assumption) (by assumption) ?_; intro a' h' t1' t3' tk' F' N' H'
  dsimp only
  refine src_rng R.hh (n := 4) (by decide) H' F' N' ?_
  intro it h18 tk18 hS
  refine ⟨g17, _, _, _, _, (fun i g ys => ∃ sl : List Stp, ys = sl.map (fun p => Value.ref p.a) ∧ (∀ p ∈ sl, Has g p.a (isTup [.int (p.x : Int) p.tx, .int (p.y : Int) p.ty])) ∧ sl.map (fun p => (p.x, p.y)) = (List.range i).map fun k => (ovF nu k, k + 1)), hS, by omega, ⟨[], rfl, (fun _ q => by cases q), rfl⟩, ?_, ?_⟩
  · intro i v h19 tk19 g19 gI C u ys hi hv k19 kI hp hlen F19 N19
    obtain ⟨t, rfl⟩ := hv
    obtain ⟨sl, rfl, hsl1, hsl2⟩ := hp
    have hOI := (k19.trans kI).has hOV17
    have hCI := (k19.trans kI).has hC217
    obtain ⟨tn, htn⟩ := intValues_get hlo (show ((List.range 4).map fun k => (ovF nu k : Int))[i]? = some (ovF nu i : Int) by rw [List.getElem?_map, List.getElem?_range hi]; rfl)
    have hoz : lo.length = 4 := by simpa using congrArg List.length hlo
    rw [List.forIn_nil]
    refine wpAny_pure ?_
    rw [if_pos rfl]
    refine Tuple_ ?_
    refine args_cons ?_ (by with_unfolding_all rfl)
    refine Subscript_ ?_
    refine qfc ?_
    refine qlo ?_
    dsimp only
    refine item_lstN (F19.keep.has hOI).list (by rw [intValues_len]; omega) htn ?_
    refine args_cons ?_ (by with_unfolding_all rfl)
    refine wpAny_BinOp ?_
    refine qlo ?_
    refine cst_int ?_; intro t' k'
    refine addI ?_; intro t' k'
    refine args_nil ?_
    refine newTup (by assumption) (by assumption) (by with_unfolding_all exact Nat.le_of_ble_eq_true rfl) ?_; intro a' h' F' N'
    dsimp only
    refine ⟨_, _, _, [(a', _)], rfl, F', N', fun g5 k5 q5 => ⟨sl ++ [⟨a', ovF nu i, tn, i + 1, t'⟩], by rw [List.map_append]; rfl, fun p hp => ?_, ?_⟩⟩
    · rcases List.mem_append.mp hp with hp | hp
      · exact k5.has (hsl1 p hp)
      · rw [List.mem_singleton.mp hp]
        exact q5 _ (.head _)
    · rw [List.map_append, hsl2, List.range_succ, List.map_append]; rfl
  rintro S1 h19 tk19 g19 ys k19 ⟨sl1, rfl, hsl1, hsl2⟩ F19 N19
  replace F19 : Fm g19 L h19 _ := F19
  replace N19 : Led g19 L h19 _ := N19
  have hTA19 := k19.has hTA17
  have hKA19 := k19.has hKA17
  have hRT19 := k19.has hRT17
  have hNA19 := k19.has hNA17
  have hC119 := k19.has hC117
  have O19 := O17.keeps k19
  have k019 := k017.trans k19
  clear hTA17 hKA17 hRT17 hNA17 hC117 hC217 hOV17 O17 k017 k19 hS F' N' H'
  dsimp only
  refine lcomp_eval (cl := []) (by with_unfolding_all rfl) (by with_unfolding_all decide) (by with_unfolding_all rfl) (by with_unfolding_all decide) (by with_unfolding_all rfl) ?_ (by intro _; with_unfolding_all rfl)
  refine sub_slice_lst ?_ (by intro _ _; with_unfolding_all rfl)
  refine qfc ?_
  refine part_none ?_
  refine part_some ?_
  refine cst_int ?_; intro t' k'
  dsimp only
  refine ll_upto (b := 3) (by assumption) (by assumption) (F19.keep.has hNA19).list (by rw [intValues_len]; omega) ?_
  intro a20 h20 F20 N20
  obtain ⟨g20, F20, N20, k20, q20⟩ := freeze [(a20, _)] (led := [(S1, isLst (sl1.map fun (p : Stp) => Value.ref p.a))]) F20 N20
  have hx20 := (q20 _ (.head _)).list
  refine src_list R.hh hx20 F20 N20 ?_
  intro it h21 tk21 hS
  refine ⟨g20, _, _, _, _, (fun i g ys => ∃ sl : List Stp, ys = sl.map (fun p => Value.ref p.a) ∧ (∀ p ∈ sl, Has g p.a (isTup [.int (p.x : Int) p.tx, .int (p.y : Int) p.ty])) ∧ sl.map (fun p => (p.x, p.y)) = (List.range i).map fun k => (nu k % 5, nu k / 5 % 5)), hS, ?_, ⟨[], rfl, (fun _ q => by cases q), rfl⟩, ?_, ?_⟩
  · rw [List.length_take, intValues_len]; omega
  · intro i v h22 tk22 g22 gI C u ys hi hv k22 kI hp hlen F22 N22
    obtain ⟨sl, rfl, hsl5, hsl6⟩ := hp
    have hi3 : i < 3 := by rw [List.length_take] at hi; omega
    obtain ⟨tn, htn⟩ := hNg i (by omega)
    rw [List.getElem?_take_of_lt hi3, htn] at hv
    cases hv
    rw [List.forIn_nil]
    refine wpAny_pure ?_
    rw [if_pos rfl]
    refine Tuple_ ?_
    refine args_cons ?_ (by with_unfolding_all rfl)
    refine wpAny_BinOp ?_
    refine qlo ?_
    refine cst_int ?_; intro t' k'
    dsimp only
    refine modN (by decide) ?_; intro t23 tk23
    refine args_cons ?_ (by with_unfolding_all rfl)
    refine wpAny_BinOp ?_
    refine wpAny_BinOp ?_
    refine qlo ?_
    refine cst_int ?_; intro t' k'
    dsimp only
    refine divN (by decide) (by decide) ?_; intro t24 tk24
    refine cst_int ?_; intro t' k'
    dsimp only
    refine modN (by decide) ?_; intro t25 tk25
    refine args_nil ?_
    refine newTup (by assumption) (by assumption) (by with_unfolding_all exact Nat.le_of_ble_eq_true rfl) ?_; intro a' h' F' N'
    dsimp only
    refine ⟨_, _, _, [(a', _)], rfl, F', N', fun g5 k5 q5 => ⟨sl ++ [⟨a', nu i % 5, t23, nu i / 5 % 5, t25⟩], by rw [List.map_append]; rfl, fun p hp => ?_, ?_⟩⟩
    · rcases List.mem_append.mp hp with hp | hp
      · exact k5.has (hsl5 p hp)
      · rw [List.mem_singleton.mp hp]
        exact q5 _ (.head _)
    · rw [List.map_append, hsl6, List.range_succ, List.map_append]; rfl
  rintro S2 h22 tk22 g22 ys k22 ⟨sl2, rfl, hsl3, hsl4⟩ F22 N22
  replace F22 : Fm g22 L h22 _ := F22
  replace N22 : Led g22 L h22 _ := N22
  rw [List.length_take, intValues_len, hNz] at hsl4
  have kB := k20.trans k22
  have hTA22 := kB.has hTA19
  have hKA22 := kB.has hKA19
  have hRT22 := kB.has hRT19
  have hC122 := kB.has hC119
  have O22 := O19.keeps kB
  have k022 := k019.trans kB
  have hsl7 : ∀ p ∈ sl1, Has g22 p.a (isTup [.int (p.x : Int) p.tx, .int (p.y : Int) p.ty]) := fun p hp => kB.has (hsl1 p hp)
  have hz1 : sl1.length = 4 := by simpa using congrArg List.length hsl2
  have hz2 : sl2.length = 3 := by simpa using congrArg List.length hsl4
  clear hTA19 hKA19 hRT19 hNA19 hC119 O19 k019 hS F20 N20 F19 N19 q20 hx20 k20 k22 hsl1 kB
  dsimp only
  refine addL F22 N22 (N22.get 1 rfl).list (N22.get 0 rfl).list (by simp; omega) ?_
  intro SS h23 F23 N23
  clear F22 N22
  rw [← List.map_append] at N23
  refine qst ?_; intro h' tk' F' N'
  refine wpAny_execs_cons ?_
  refine wpAny_Return_some ?_
  refine BoolOp_and ?_
  refine wpAny_Compare1 ?_ (by with_unfolding_all rfl)
  refine qlo ?_
  dsimp only
  refine lcomp_eval (cl := []) (by with_unfolding_all rfl) (by with_unfolding_all decide) (by with_unfolding_all rfl) (by with_unfolding_all decide) (by with_unfolding_all rfl) ?_ (by intro _; with_unfolding_all rfl)
  refine Call_ ?_ (by with_unfolding_all rfl)
  refine qgl (gn_law_reached _) ?_
  refine qfn (kp_law_reached _) ?_
  refine args_cons ?_ (by with_unfolding_all rfl)
  refine qlo ?_
  refine args_cons ?_ (by with_unfolding_all rfl)
  refine qlo ?_
  refine args_nil ?_
  refine ⟨Fm.keep (by assumption), ?_⟩
  have hst : (sl1 ++ sl2).map (fun p => (p.x, p.y)) = stF nu := by rw [List.map_append, hsl2, hsl4]; rfl
  refine reached_spec (sl := sl1 ++ sl2) O22 F'.keep (by walk_at "room") (N'.get 0 rfl).list (fun p hp => ?_) (fun p hp => ?_) (F'.keep.has hRT22).list hlR (by rw [List.length_append]; omega) ?_
  · rcases List.mem_append.mp hp with hp | hp
    · exact F'.keep.has (hsl7 p hp)
    · exact F'.keep.has (hsl3 p hp)
  · have hm : (p.x, p.y) ∈ stF nu := by rw [← hst]; exact List.mem_map.mpr ⟨p, hp, rfl⟩
    obtain ⟨i, _, h8, e1, e2⟩ := (st_iff nu p.x p.y).mp hm
    exact ⟨e1 ▸ (geo_of nu).par5 i h8, e2 ▸ (geo_of nu).go5 i h8⟩
  intro h24 tk24 RA lA k24 hf24 HRA hlA
  rw [hst] at hlA
  obtain ⟨g25, F25, N25, k25, q25⟩ := refix F' N' k24
  have hRA := q25 RA _ hf24 HRA
  have hAz : lA.length = 5 := by
    have := congrArg List.length hlA
    rw [reachN_len, List.length_map] at this
    exact this
  have hTA25 := k25.has hTA22
  have hKA25 := k25.has hKA22
  have O25 := O22.keeps k25
  have k025 := k022.trans k25
  clear q25 HRA hf24 k24 F' N' F23 N23 hTA22 hKA22 hRT22 hC122 O22 k022 k25 hsl7 hsl3
  refine src_list R.hh hRA.list F25 N25 ?_
  intro it h26 tk26 hS
  refine ⟨g25, _, [], _, _, (fun i _ ys => ∃ lt2 : List (Str × Tok), ys = strValues lt2 ∧ lt2.map (·.1) = ((lA.map (·.1)).take i).map fun n => signN n 3), hS, ?_, ⟨[], rfl, by simp⟩, ?_, ?_⟩
  · rw [natVals_len]; omega
  · intro i v h27 tk27 g27 gI C u ys hi hv k27 kI hp hlen F27 N27
    obtain ⟨lt2, rfl, hlt2⟩ := hp
    rw [natVals_len] at hi
    have O27 := O25.keeps (k27.trans kI)
    have hn : (lA.map (·.1))[i]? = some (lA[i]'hi).1 := by rw [List.getElem?_map, List.getElem?_eq_getElem hi]; rfl
    obtain ⟨tn, htn⟩ := natVals_get rfl hn
    rw [htn] at hv
    cases hv
    rw [List.forIn_nil]
    refine wpAny_pure ?_
    rw [if_pos rfl]
    refine Call_ ?_ (by with_unfolding_all rfl)
    refine qgl (gn_law_signs _) ?_
    refine qfn (kp_law_signs _) ?_
    refine args_cons ?_ (by with_unfolding_all rfl)
    refine qlo ?_
    refine args_nil ?_
    refine ⟨Fm.keep (by assumption), ?_⟩
    dsimp only
    refine signs_spec O27 F27.keep (by walk_at "room") ?_
    intro h28 tk28 t28 k28
    refine ⟨_, _, _, [], rfl, F27.sub k28, N27.sub k28, fun g5 _ _ => ⟨_, strValues_snoc, ?_⟩⟩
    rw [List.map_append, hlt2, List.take_add_one, hn, List.map_append]; rfl
  rintro TD h27 tk27 g27 ys k27 ⟨lt2, rfl, hlt2⟩ F27 N27
  replace F27 : Fm g27 L h27 _ := F27
  replace N27 : Led g27 L h27 _ := N27
  rw [List.take_of_length_le (by rw [natVals_len, List.length_map]; omega), hlA] at hlt2
  have hTA27 := k27.has hTA25
  have hKA27 := k27.has hKA25
  have k027 := k025.trans k27
  have O27 := O25.keeps k27
  dsimp only
  refine eqS (l1 := lt) (l2 := lt2) (F27.keep.has hTA27).list (N27.get 0 rfl).list (by rw [hlt, he, hlt2]) (Room.units (n := 7) R.deeper) ?_
  refine wpAny_truthy_bool ?_
  refine itb_t rfl ?_
  refine BoolOp_one ?_
  refine wpAny_Compare1 ?_ (by with_unfolding_all rfl)
  refine qlo ?_
  refine Call_ ?_ (by with_unfolding_all rfl)
  refine qbl (gn_sorted _) boot_sorted ?_
  refine callWith_builtin1 ?_ (by with_unfolding_all rfl) (by with_unfolding_all rfl)
  refine args_cons ?_ (by with_unfolding_all rfl)
  refine qlo ?_
  refine args_nil ?_
  rw [List.length_map] at hz63
  refine sortedC F27 N27 (F27.keep.has hKA27).list hz63 hsrt ?_
  intro a28 h28 l2 F28 N28 hl2 hle
  dsimp only
  refine eqI (l1 := ll) (l2 := l2) (F28.keep.has hKA27).list hl2 hle.symm (Room.units (n := 7) R.deeper) ?_
  skip
  exact h _ _ (keeps_of (F28.weak k027)).sub
end
end
/-! Fin -/
section
theorem room8 : Room callerA 8 := ⟨by decide +kernel, by decide +kernel, rfl⟩
end
end Mine
set_option maxHeartbeats 0 in
theorem PySem.Challenge.cw_pd0155_01_holds : PySem.Challenge.rw_pd0155_01.Holds := by
  w_on
  o_law
  o_head (kHook Mine.Kf Mine.Ka (fun _ => rfl))
  case hw => w_witness2
  intro w s₀ s₁ mg mb G Y fa o pm cd doc dV kV ho hd' hcd hD hmg hg args vals as hpre hlay hrd hwl hlo
  have KX := kIn_of Y
  refine Ground.open G ?_
  intro T B D TE TW
  have O : Mine.Ok w mg mb s₁.heap := ⟨KX, T.g, T.b, T.nolimit, T.builtins⟩
  have hm2 : mg (Str.ofString "law") = some (.ref fa) := hmg
  have hm3 := mg_of O.X O.g (Mine.gn_law w)
  have hfa : fa = 275 := Value.ref.inj (Option.some.inj (hm2.symm.trans hm3))
  subst hfa
  have hsm : ∃ o, s₁.heap.get? sysModules = some o := by
    obtain ⟨mm, ⟨o, _, _, e, _⟩, _⟩ := (T.seer (by decide +kernel)).mods
    exact ⟨o, e⟩
  clear ho hd' hcd hD hmg hm2 hm3 B D TE TW KX Y G T
  wrow_args hpre hlay hrd hwl hlo
  rename_i hL _ _ _ hI _ hc _
  obtain ⟨q, rfl, rfl⟩ := Mine.intValues_of hI
  exact Mine.law_spec O (Mine.Sub.refl _) Mine.room8 hL (by rw [List.length_map] at hc; omega) hsm fun h' tk' k => Mine.good_true hg k
