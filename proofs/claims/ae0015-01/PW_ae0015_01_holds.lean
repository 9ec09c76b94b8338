import PyProof.Rows.All
import Wide.All
import OpenK.AllK
import KE.KNestM
import Wide.FinOn
import Lean
import PySem.Challenge.RW_ae0015_01
open List renaming mem_append_right → zR, mem_append_left → zL, mem_append → zA, mem_cons → zC, mem_singleton → zS
open PySem PySem.W PyProof.Rows PySem.Calls
open PySem.Str renaming ofString → oS
open PySem.PyData renaming keyHash → kH
open PySem.Challenge renaming rw_ae0015_01 → rW
set_option Elab.async false
set_option linter.all false
set_option maxRecDepth 100000
set_option maxHeartbeats 0
namespace Mine
def tA0 : Lean.Syntax := (Lean.Unhygienic.run `(tacticSeq| rfl)).raw
def tA1 : Lean.Syntax := (Lean.Unhygienic.run `(tacticSeq| decide)).raw
def tA2 : Lean.Syntax := (Lean.Unhygienic.run `(tacticSeq| intro _; rfl)).raw
def tA3 : Lean.Syntax := (Lean.Unhygienic.run `(tacticSeq| k_is)).raw
noncomputable def ndB : List Str -> Bool
 | [] => true
 | x :: l => !(l.contains x) && ndB l
theorem nd {l : List Str} (h : ndB l = true) : ∃ ns, l = ns /\ ns.Nodup := by
 refine ⟨l, rfl, ?_⟩
 induction l with
 | nil => exact .nil
 | cons x l ih =>
  have h := Bool.and_eq_true_iff.mp h
  exact List.nodup_cons.mpr ⟨fun q => by rw [List.contains_iff_mem.mpr q] at h; exact Bool.false_ne_true h.1, ih h.2⟩
def tA4 : Lean.Syntax := (Lean.Unhygienic.run `(tacticSeq| intros; with_unfolding_all rfl)).raw
def tA6 : Lean.Syntax := (Lean.Unhygienic.run `(tacticSeq| exact nd rfl)).raw
theorem wq {α : Type} {M : Model} {A : Around} {t t' : Sem α} {Q : α -> Shared -> Prop} {E : Value -> Shared -> Prop} {s : Shared} (e : t = t') (h : wpAny M A t' Q E s) : wpAny M A t Q E s := e ▸ h
theorem ab0 {T : Prop} (h : ∀ U, U = T -> U) : T := h T rfl
theorem ab1 {α : Type} {T : α -> Prop} (a : α) (h : ∀ U : α -> Prop, U = T -> U a) : T a := h T rfl
theorem ab2 {α β : Type} {T : α -> β -> Prop} (a : α) (b : β) (h : ∀ U : α -> β -> Prop, U = T -> U a b) : T a b := h T rfl
theorem ab3 {α β γ : Type} {T : α -> β -> γ -> Prop} (a : α) (b : β) (c : γ) (h : ∀ U : α -> β -> γ -> Prop, U = T -> U a b c) : T a b c := h T rfl
theorem ab4 {α β γ δ : Type} {T : α -> β -> γ -> δ -> Prop} (a : α) (b : β) (c : γ) (d : δ) (h : ∀ U : α -> β -> γ -> δ -> Prop, U = T -> U a b c d) : T a b c d := h T rfl
theorem ab5 {α β γ δ ε : Type} {T : α -> β -> γ -> δ -> ε -> Prop} (a : α) (b : β) (c : γ) (d : δ) (i : ε) (h : ∀ U : α -> β -> γ -> δ -> ε -> Prop, U = T -> U a b c d i) : T a b c d i := h T rfl
theorem hidA {α : Type} {M : Model} {A : Around} {t : Sem α} {Q : α -> Shared -> Prop} {E : Value -> Shared -> Prop} {s : Shared} (h : ∀ Q', Q' = Q -> wpAny M A t Q' E s) : wpAny M A t Q E s := h Q rfl
noncomputable abbrev St (s : Shared) (h : Heap) (t : Nat) : Shared := { s with heap := h, toks := t }
noncomputable abbrev Tk (s : Shared) (t : Nat) : Shared := { s with toks := t }
noncomputable abbrev Ap (l l' : List (Addr × Obj)) : Prop := ∀ q ∈ l, ∀ x ∈ l', q.1 ≠ x.1
noncomputable abbrev mput (m : Str -> Option Value) (x : Str) (v : Value) : Str -> Option Value := fun y => if y = x then some v else m y
noncomputable abbrev Sg (s : Shared) (h : Heap) (g : Array GenState) (t : Nat) : Shared := { s with heap := h, gens := g, toks := t }
noncomputable abbrev pw : Program := rW.prog
noncomputable def topFn (i : Nat) : Stmt := (pw.main.body[i]?).getD (.Pass default)
noncomputable def stP : Stmt -> List Stmt × List Stmt × Option (Str × Arguments × Scope)
 | .FunctionDef n a b _ _ _ s _ _ _ => (b, [], some (n, a, s))
 | .ClassDef _ _ _ b _ _ _ _ _ _ _ => (b, [], none)
 | .While _ b e _ => (b, e, none)
 | .If _ b e _ => (b, e, none)
 | .For _ _ b e _ => (b, e, none)
 | _ => ([], [], none)
noncomputable def clsFn (i j : Nat) : Stmt := ((stP (topFn i)).1[j]?).getD (.Pass default)
noncomputable def mkFn (st : Stmt) (qual : Str) (dV pm cd : Value) (an : Option Addr) : FuncData := match (stP st).2.2 with
 | some (name, args, scope) => fnOf name qual args (stP st).1 scope dV .none .none pm an cd .none
 | none => default
noncomputable def en (P : Params) (x : String) (t : Nat) (v : Value) : DictEntry := ⟨kH P (oS x), .str (oS x) t, v⟩
noncomputable def fO (st : Stmt) (q : String) (dV : Value) (pm : String) (t cd : Nat) (an : Option Addr) : Obj := ⟨.type "function", none, .func (mkFn st (oS q) dV (.str (oS pm) t) (.ref cd) an), [].toArray⟩
noncomputable def spE (P : Params) (t : Nat) (b : Int) (n : Str) (r t4 t5 : Nat) (l : Value) : List DictEntry :=
 [⟨kH P (oS "status_byte"), .str (oS "status_byte") t, .int b (t + 1)⟩, ⟨kH P (oS "type"), .str (oS "type") (t + 2), .str n (t + 3)⟩, ⟨kH P (oS "value_names"), .str (oS "value_names") (t + 4), .ref r⟩, ⟨kH P (oS "attribute_names"), .str (oS "attribute_names") t4, .ref (r + 1)⟩, ⟨kH P (oS "length"), .str (oS "length") t5, l⟩]
noncomputable def spO (P : Params) (t : Nat) (b : Int) (n : String) (r t4 t5 : Nat) (l : Value) : Obj := ⟨.type "dict", none, .dict (spE P t b (oS n) r t4 t5 l).toArray 5, [].toArray⟩
noncomputable def o2 (P : Params) : Obj := ⟨.none, none, .dict (([]) : List DictEntry).toArray 0, [].toArray⟩
noncomputable def e3 (P : Params) : List DictEntry := en P "__name__" 165 (.str (oS "law_ae0015_01") 1050) :: en P "__doc__" 166 .none :: en P "__package__" 167 .none :: en P "__loader__" 168 (.builtin "__main__.__loader__#opaque") :: en P "__spec__" 169 .none :: en P "__annotations__" 170 (.ref 6) :: en P "__builtins__" 171 (.ref 4) :: en P "__file__" 173 (.str (oS "/claim/cut.py") 172) :: en P "__cached__" 174 .none :: en P "_wall" 193 (.ref 21) :: en P "is_channel_status" 202 (.ref 28) :: en P "MIN_PITCHWHEEL" 205 (.int (-8192) 204) :: en P "MAX_PITCHWHEEL" 207 (.int (8191) 206) :: en P "MIN_SONGPOS" 209 (.int (0) 208) :: en P "MAX_SONGPOS" 211 (.int (16383) 210) :: en P "SPEC_BY_TYPE" 563 (.ref 29) :: en P "DEFAULT_VALUES" 602 (.ref 85) :: en P "make_msgdict" 613 (.ref 93) :: en P "check_type" 622 (.ref 100) :: en P "check_channel" 629 (.ref 107) :: en P "check_pos" 636 (.ref 114) :: en P "check_pitch" 643 (.ref 121) :: en P "check_data" 651 (.ref 128) :: en P "check_frame_type" 658 (.ref 135) :: en P "check_frame_value" 665 (.ref 142) :: en P "check_data_byte" 672 (.ref 149) :: en P "check_time" 679 (.ref 156) :: en P "check_value" 687 (.ref 163) :: en P "check_msgdict" 697 (.ref 170) :: en P "_encode_pitchwheel" 707 (.ref 177) :: en P "_encode_sysex" 714 (.ref 184) :: en P "_encode_quarter_frame" 721 (.ref 191) :: en P "_encode_songpos" 729 (.ref 198) :: en P "_encode_note_off" 736 (.ref 205) :: en P "_encode_note_on" 743 (.ref 212) :: en P "_encode_control_change" 750 (.ref 219) :: en P "encode_message" 756 (.ref 224) :: en P "msg2str" 771 (.ref 232) :: en P "_parse_time" 778 (.ref 239) :: en P "_parse_data" 784 (.ref 244) :: en P "str2msg" 798 (.ref 251) :: en P "BaseMessage" 911 (.ref 338) :: en P "Message" 1023 (.ref 418) :: en P "parse_string" 1030 (.ref 427) :: en P "parse_string_stream" 1041 (.ref 434) :: en P "format_as_string" 1049 (.ref 442) :: en P "_law_kinds" 1104 (.ref 479) :: en P "_law_sevens" 1113 (.ref 486) :: en P "_law_values" 1125 (.ref 493) :: en P "_law_words" 1131 (.ref 498) :: en P "_law_defaults" 1140 (.ref 505) :: en P "_law_line" 1151 (.ref 512) :: en P "law" 1180 (.ref 519) :: []
noncomputable def o3 (P : Params) : Obj := ⟨.type "dict", none, .dict (e3 P).toArray 53, [].toArray⟩
noncomputable def o29 (P : Params) : Obj := ⟨.type "dict", none, .dict ((en P "note_off" 212 (.ref 30) :: en P "note_on" 235 (.ref 33) :: en P "polytouch" 258 (.ref 36) :: en P "control_change" 281 (.ref 39) :: en P "program_change" 304 (.ref 42) :: en P "aftertouch" 325 (.ref 45) :: en P "pitchwheel" 346 (.ref 48) :: en P "sysex" 367 (.ref 51) :: en P "quarter_frame" 385 (.ref 54) :: en P "songpos" 406 (.ref 57) :: en P "song_select" 425 (.ref 60) :: en P "tune_request" 444 (.ref 63) :: en P "clock" 461 (.ref 66) :: en P "start" 478 (.ref 69) :: en P "continue" 495 (.ref 72) :: en P "stop" 512 (.ref 75) :: en P "active_sensing" 529 (.ref 78) :: en P "reset" 546 (.ref 82) :: []) : List DictEntry).toArray 18, [].toArray⟩
noncomputable def o30 (P : Params) : Obj := spO P 213 128 "note_off" 31 221 227 (.int 3 228)
noncomputable def o31 (P : Params) : Obj := ⟨.type "tuple", none, .seq [.str (oS "channel") 218, .str (oS "note") 219, .str (oS "velocity") 220].toArray 0, [].toArray⟩
noncomputable def o32 (P : Params) : Obj := ⟨.type "tuple", none, .seq [.str (oS "channel") 222, .str (oS "note") 223, .str (oS "velocity") 224, .str (oS "type") 225, .str (oS "time") 226].toArray 0, [].toArray⟩
noncomputable def o33 (P : Params) : Obj := spO P 236 144 "note_on" 34 244 250 (.int 3 251)
noncomputable def o34 (P : Params) : Obj := ⟨.type "tuple", none, .seq [.str (oS "channel") 241, .str (oS "note") 242, .str (oS "velocity") 243].toArray 0, [].toArray⟩
noncomputable def o35 (P : Params) : Obj := ⟨.type "tuple", none, .seq [.str (oS "channel") 245, .str (oS "note") 246, .str (oS "velocity") 247, .str (oS "type") 248, .str (oS "time") 249].toArray 0, [].toArray⟩
noncomputable def o36 (P : Params) : Obj := spO P 259 160 "polytouch" 37 267 273 (.int 3 274)
noncomputable def o37 (P : Params) : Obj := ⟨.type "tuple", none, .seq [.str (oS "channel") 264, .str (oS "note") 265, .str (oS "value") 266].toArray 0, [].toArray⟩
noncomputable def o38 (P : Params) : Obj := ⟨.type "tuple", none, .seq [.str (oS "channel") 268, .str (oS "note") 269, .str (oS "value") 270, .str (oS "type") 271, .str (oS "time") 272].toArray 0, [].toArray⟩
noncomputable def o39 (P : Params) : Obj := spO P 282 176 "control_change" 40 290 296 (.int 3 297)
noncomputable def o40 (P : Params) : Obj := ⟨.type "tuple", none, .seq [.str (oS "channel") 287, .str (oS "control") 288, .str (oS "value") 289].toArray 0, [].toArray⟩
noncomputable def o41 (P : Params) : Obj := ⟨.type "tuple", none, .seq [.str (oS "channel") 291, .str (oS "control") 292, .str (oS "value") 293, .str (oS "type") 294, .str (oS "time") 295].toArray 0, [].toArray⟩
noncomputable def o42 (P : Params) : Obj := spO P 305 192 "program_change" 43 312 317 (.int 2 318)
noncomputable def o43 (P : Params) : Obj := ⟨.type "tuple", none, .seq [.str (oS "channel") 310, .str (oS "program") 311].toArray 0, [].toArray⟩
noncomputable def o44 (P : Params) : Obj := ⟨.type "tuple", none, .seq [.str (oS "channel") 313, .str (oS "program") 314, .str (oS "type") 315, .str (oS "time") 316].toArray 0, [].toArray⟩
noncomputable def o45 (P : Params) : Obj := spO P 326 208 "aftertouch" 46 333 338 (.int 2 339)
noncomputable def o46 (P : Params) : Obj := ⟨.type "tuple", none, .seq [.str (oS "channel") 331, .str (oS "value") 332].toArray 0, [].toArray⟩
noncomputable def o47 (P : Params) : Obj := ⟨.type "tuple", none, .seq [.str (oS "channel") 334, .str (oS "value") 335, .str (oS "type") 336, .str (oS "time") 337].toArray 0, [].toArray⟩
noncomputable def o48 (P : Params) : Obj := spO P 347 224 "pitchwheel" 49 354 359 (.int 3 360)
noncomputable def o49 (P : Params) : Obj := ⟨.type "tuple", none, .seq [.str (oS "channel") 352, .str (oS "pitch") 353].toArray 0, [].toArray⟩
noncomputable def o50 (P : Params) : Obj := ⟨.type "tuple", none, .seq [.str (oS "channel") 355, .str (oS "pitch") 356, .str (oS "type") 357, .str (oS "time") 358].toArray 0, [].toArray⟩
noncomputable def o51 (P : Params) : Obj := spO P 368 240 "sysex" 52 374 378 .none
noncomputable def o52 (P : Params) : Obj := ⟨.type "tuple", none, .seq [.str (oS "data") 373].toArray 0, [].toArray⟩
noncomputable def o53 (P : Params) : Obj := ⟨.type "tuple", none, .seq [.str (oS "data") 375, .str (oS "type") 376, .str (oS "time") 377].toArray 0, [].toArray⟩
noncomputable def o54 (P : Params) : Obj := spO P 386 241 "quarter_frame" 55 393 398 (.int 2 399)
noncomputable def o55 (P : Params) : Obj := ⟨.type "tuple", none, .seq [.str (oS "frame_type") 391, .str (oS "frame_value") 392].toArray 0, [].toArray⟩
noncomputable def o56 (P : Params) : Obj := ⟨.type "tuple", none, .seq [.str (oS "frame_type") 394, .str (oS "frame_value") 395, .str (oS "type") 396, .str (oS "time") 397].toArray 0, [].toArray⟩
noncomputable def o57 (P : Params) : Obj := spO P 407 242 "songpos" 58 413 417 (.int 3 418)
noncomputable def o58 (P : Params) : Obj := ⟨.type "tuple", none, .seq [.str (oS "pos") 412].toArray 0, [].toArray⟩
noncomputable def o59 (P : Params) : Obj := ⟨.type "tuple", none, .seq [.str (oS "pos") 414, .str (oS "type") 415, .str (oS "time") 416].toArray 0, [].toArray⟩
noncomputable def o60 (P : Params) : Obj := spO P 426 243 "song_select" 61 432 436 (.int 2 437)
noncomputable def o61 (P : Params) : Obj := ⟨.type "tuple", none, .seq [.str (oS "song") 431].toArray 0, [].toArray⟩
noncomputable def o62 (P : Params) : Obj := ⟨.type "tuple", none, .seq [.str (oS "song") 433, .str (oS "type") 434, .str (oS "time") 435].toArray 0, [].toArray⟩
noncomputable def o63 (P : Params) : Obj := spO P 445 246 "tune_request" 64 450 453 (.int 1 454)
noncomputable def o64 (P : Params) : Obj := ⟨.type "tuple", none, .seq [].toArray 0, [].toArray⟩
noncomputable def o65 (P : Params) : Obj := ⟨.type "tuple", none, .seq [.str (oS "type") 451, .str (oS "time") 452].toArray 0, [].toArray⟩
noncomputable def o66 (P : Params) : Obj := spO P 462 248 "clock" 67 467 470 (.int 1 471)
noncomputable def o67 (P : Params) : Obj := ⟨.type "tuple", none, .seq [].toArray 0, [].toArray⟩
noncomputable def o68 (P : Params) : Obj := ⟨.type "tuple", none, .seq [.str (oS "type") 468, .str (oS "time") 469].toArray 0, [].toArray⟩
noncomputable def o69 (P : Params) : Obj := spO P 479 250 "start" 70 484 487 (.int 1 488)
noncomputable def o70 (P : Params) : Obj := ⟨.type "tuple", none, .seq [].toArray 0, [].toArray⟩
noncomputable def o71 (P : Params) : Obj := ⟨.type "tuple", none, .seq [.str (oS "type") 485, .str (oS "time") 486].toArray 0, [].toArray⟩
noncomputable def o72 (P : Params) : Obj := spO P 496 251 "continue" 73 501 504 (.int 1 505)
noncomputable def o73 (P : Params) : Obj := ⟨.type "tuple", none, .seq [].toArray 0, [].toArray⟩
noncomputable def o74 (P : Params) : Obj := ⟨.type "tuple", none, .seq [.str (oS "type") 502, .str (oS "time") 503].toArray 0, [].toArray⟩
noncomputable def o75 (P : Params) : Obj := spO P 513 252 "stop" 76 518 521 (.int 1 522)
noncomputable def o76 (P : Params) : Obj := ⟨.type "tuple", none, .seq [].toArray 0, [].toArray⟩
noncomputable def o77 (P : Params) : Obj := ⟨.type "tuple", none, .seq [.str (oS "type") 519, .str (oS "time") 520].toArray 0, [].toArray⟩
noncomputable def o78 (P : Params) : Obj := spO P 530 254 "active_sensing" 79 535 538 (.int 1 539)
noncomputable def o79 (P : Params) : Obj := ⟨.type "tuple", none, .seq [].toArray 0, [].toArray⟩
noncomputable def o80 (P : Params) : Obj := ⟨.type "tuple", none, .seq [.str (oS "type") 536, .str (oS "time") 537].toArray 0, [].toArray⟩
noncomputable def o81 (P : Params) : Obj := ⟨.type "dict", none, .dict ((en P "reset" 546 (.ref 82) :: []) : List DictEntry).toArray 1, [].toArray⟩
noncomputable def o82 (P : Params) : Obj := spO P 547 255 "reset" 83 552 555 (.int 1 556)
noncomputable def o83 (P : Params) : Obj := ⟨.type "tuple", none, .seq [].toArray 0, [].toArray⟩
noncomputable def o84 (P : Params) : Obj := ⟨.type "tuple", none, .seq [.str (oS "type") 553, .str (oS "time") 554].toArray 0, [].toArray⟩
noncomputable def o85 (P : Params) : Obj := ⟨.type "dict", none, .dict ((en P "channel" 564 (.int (0) 565) :: en P "control" 566 (.int (0) 567) :: en P "data" 568 (.ref 86) :: en P "frame_type" 569 (.int (0) 570) :: en P "frame_value" 571 (.int (0) 572) :: en P "note" 573 (.int (0) 574) :: en P "pitch" 575 (.int (0) 576) :: en P "pos" 577 (.int (0) 578) :: en P "program" 579 (.int (0) 580) :: en P "song" 581 (.int (0) 582) :: en P "value" 583 (.int (0) 584) :: en P "velocity" 585 (.int (64) 586) :: en P "time" 587 (.int (0) 588) :: []) : List DictEntry).toArray 13, [].toArray⟩
noncomputable def o86 (P : Params) : Obj := ⟨.type "tuple", none, .seq [].toArray 0, [].toArray⟩
noncomputable def o92 (P : Params) : Obj := ⟨.type "code", none, .fields [.str (oS "make_msgdict") 603, .str (oS "make_msgdict") 604, .str (oS "/claim/cut.py") 605, .int (13) 0, .int (2) 0, .int (0) 0, .int (0) 0, .int (3) 0, .ref 87, .bool true, .int (181) 0, .ref 88, .none, .ref 89, .ref 90, .ref 91, .int (611) 0, .int (13) 0, .str (oS "/claim/cut.py") 612].toArray, [].toArray⟩
noncomputable def o93 (P : Params) : Obj := fO (topFn 9) "make_msgdict" .none "mido.messages.specs" 194 92 none
noncomputable def o99 (P : Params) : Obj := ⟨.type "code", none, .fields [.str (oS "check_type") 616, .str (oS "check_type") 617, .str (oS "/claim/cut.py") 618, .int (24) 0, .int (1) 0, .int (0) 0, .int (0) 0, .int (3) 0, .ref 94, .bool true, .int (181) 0, .ref 95, .none, .ref 96, .ref 97, .ref 98, .int (620) 0, .int (24) 0, .str (oS "/claim/cut.py") 621].toArray, [].toArray⟩
noncomputable def o100 (P : Params) : Obj := fO (topFn 11) "check_type" .none "mido.messages.checks" 614 99 none
noncomputable def o106 (P : Params) : Obj := ⟨.type "code", none, .fields [.str (oS "check_channel") 623, .str (oS "check_channel") 624, .str (oS "/claim/cut.py") 625, .int (27) 0, .int (1) 0, .int (0) 0, .int (0) 0, .int (3) 0, .ref 101, .bool true, .int (181) 0, .ref 102, .none, .ref 103, .ref 104, .ref 105, .int (627) 0, .int (27) 0, .str (oS "/claim/cut.py") 628].toArray, [].toArray⟩
noncomputable def o107 (P : Params) : Obj := fO (topFn 12) "check_channel" .none "mido.messages.checks" 614 106 none
noncomputable def o113 (P : Params) : Obj := ⟨.type "code", none, .fields [.str (oS "check_pos") 630, .str (oS "check_pos") 631, .str (oS "/claim/cut.py") 632, .int (32) 0, .int (1) 0, .int (0) 0, .int (0) 0, .int (3) 0, .ref 108, .bool true, .int (181) 0, .ref 109, .none, .ref 110, .ref 111, .ref 112, .int (634) 0, .int (32) 0, .str (oS "/claim/cut.py") 635].toArray, [].toArray⟩
noncomputable def o114 (P : Params) : Obj := fO (topFn 13) "check_pos" .none "mido.messages.checks" 614 113 none
noncomputable def o120 (P : Params) : Obj := ⟨.type "code", none, .fields [.str (oS "check_pitch") 637, .str (oS "check_pitch") 638, .str (oS "/claim/cut.py") 639, .int (37) 0, .int (1) 0, .int (0) 0, .int (0) 0, .int (3) 0, .ref 115, .bool true, .int (181) 0, .ref 116, .none, .ref 117, .ref 118, .ref 119, .int (641) 0, .int (37) 0, .str (oS "/claim/cut.py") 642].toArray, [].toArray⟩
noncomputable def o121 (P : Params) : Obj := fO (topFn 14) "check_pitch" .none "mido.messages.checks" 614 120 none
noncomputable def o127 (P : Params) : Obj := ⟨.type "code", none, .fields [.str (oS "check_data") 644, .str (oS "check_data") 645, .str (oS "/claim/cut.py") 646, .int (42) 0, .int (1) 0, .int (0) 0, .int (0) 0, .int (3) 0, .ref 122, .bool true, .int (181) 0, .ref 123, .none, .ref 124, .ref 125, .ref 126, .int (649) 0, .int (42) 0, .str (oS "/claim/cut.py") 650].toArray, [].toArray⟩
noncomputable def o128 (P : Params) : Obj := fO (topFn 15) "check_data" .none "mido.messages.checks" 614 127 none
noncomputable def o134 (P : Params) : Obj := ⟨.type "code", none, .fields [.str (oS "check_frame_type") 652, .str (oS "check_frame_type") 653, .str (oS "/claim/cut.py") 654, .int (45) 0, .int (1) 0, .int (0) 0, .int (0) 0, .int (3) 0, .ref 129, .bool true, .int (181) 0, .ref 130, .none, .ref 131, .ref 132, .ref 133, .int (656) 0, .int (45) 0, .str (oS "/claim/cut.py") 657].toArray, [].toArray⟩
noncomputable def o135 (P : Params) : Obj := fO (topFn 16) "check_frame_type" .none "mido.messages.checks" 614 134 none
noncomputable def o141 (P : Params) : Obj := ⟨.type "code", none, .fields [.str (oS "check_frame_value") 659, .str (oS "check_frame_value") 660, .str (oS "/claim/cut.py") 661, .int (50) 0, .int (1) 0, .int (0) 0, .int (0) 0, .int (3) 0, .ref 136, .bool true, .int (181) 0, .ref 137, .none, .ref 138, .ref 139, .ref 140, .int (663) 0, .int (50) 0, .str (oS "/claim/cut.py") 664].toArray, [].toArray⟩
noncomputable def o142 (P : Params) : Obj := fO (topFn 17) "check_frame_value" .none "mido.messages.checks" 614 141 none
noncomputable def o148 (P : Params) : Obj := ⟨.type "code", none, .fields [.str (oS "check_data_byte") 666, .str (oS "check_data_byte") 667, .str (oS "/claim/cut.py") 668, .int (55) 0, .int (1) 0, .int (0) 0, .int (0) 0, .int (3) 0, .ref 143, .bool true, .int (181) 0, .ref 144, .none, .ref 145, .ref 146, .ref 147, .int (670) 0, .int (55) 0, .str (oS "/claim/cut.py") 671].toArray, [].toArray⟩
noncomputable def o149 (P : Params) : Obj := fO (topFn 18) "check_data_byte" .none "mido.messages.checks" 614 148 none
noncomputable def o155 (P : Params) : Obj := ⟨.type "code", none, .fields [.str (oS "check_time") 673, .str (oS "check_time") 674, .str (oS "/claim/cut.py") 675, .int (60) 0, .int (1) 0, .int (0) 0, .int (0) 0, .int (3) 0, .ref 150, .bool true, .int (181) 0, .ref 151, .none, .ref 152, .ref 153, .ref 154, .int (677) 0, .int (60) 0, .str (oS "/claim/cut.py") 678].toArray, [].toArray⟩
noncomputable def o156 (P : Params) : Obj := fO (topFn 19) "check_time" .none "mido.messages.checks" 614 155 none
noncomputable def o162 (P : Params) : Obj := ⟨.type "code", none, .fields [.str (oS "check_value") 680, .str (oS "check_value") 681, .str (oS "/claim/cut.py") 682, .int (63) 0, .int (2) 0, .int (0) 0, .int (0) 0, .int (3) 0, .ref 157, .bool true, .int (181) 0, .ref 158, .none, .ref 159, .ref 160, .ref 161, .int (685) 0, .int (63) 0, .str (oS "/claim/cut.py") 686].toArray, [].toArray⟩
noncomputable def o163 (P : Params) : Obj := fO (topFn 20) "check_value" .none "mido.messages.checks" 614 162 none
noncomputable def o169 (P : Params) : Obj := ⟨.type "code", none, .fields [.str (oS "check_msgdict") 688, .str (oS "check_msgdict") 689, .str (oS "/claim/cut.py") 690, .int (84) 0, .int (1) 0, .int (0) 0, .int (0) 0, .int (3) 0, .ref 164, .bool true, .int (181) 0, .ref 165, .none, .ref 166, .ref 167, .ref 168, .int (695) 0, .int (84) 0, .str (oS "/claim/cut.py") 696].toArray, [].toArray⟩
noncomputable def o170 (P : Params) : Obj := fO (topFn 21) "check_msgdict" .none "mido.messages.checks" 614 169 none
noncomputable def o225 (P : Params) : Obj := ⟨.type "tuple", none, .seq [.bool true].toArray 0, [].toArray⟩
noncomputable def o231 (P : Params) : Obj := ⟨.type "code", none, .fields [.str (oS "msg2str") 759, .str (oS "msg2str") 760, .str (oS "/claim/cut.py") 761, .int (133) 0, .int (2) 0, .int (0) 0, .int (0) 0, .int (3) 0, .ref 226, .bool true, .int (181) 0, .ref 227, .none, .ref 228, .ref 229, .ref 230, .int (769) 0, .int (133) 0, .str (oS "/claim/cut.py") 770].toArray, [].toArray⟩
noncomputable def o232 (P : Params) : Obj := fO (topFn 32) "msg2str" (.ref 225) "mido.messages.strings" 757 231 none
noncomputable def o238 (P : Params) : Obj := ⟨.type "code", none, .fields [.str (oS "_parse_time") 772, .str (oS "_parse_time") 773, .str (oS "/claim/cut.py") 774, .int (145) 0, .int (1) 0, .int (0) 0, .int (0) 0, .int (3) 0, .ref 233, .bool true, .int (181) 0, .ref 234, .none, .ref 235, .ref 236, .ref 237, .int (776) 0, .int (145) 0, .str (oS "/claim/cut.py") 777].toArray, [].toArray⟩
noncomputable def o239 (P : Params) : Obj := fO (topFn 33) "_parse_time" .none "mido.messages.strings" 757 238 none
noncomputable def o243 (P : Params) : Obj := ⟨.type "code", none, .fields [.str (oS "_parse_data") 779, .str (oS "_parse_data") 780, .str (oS "/claim/cut.py") 781, .int (151) 0, .int (1) 0, .int (0) 0, .int (0) 0, .int (3) 0, .ref 240, .bool true, .int (181) 0, .ref 241, .none, .none, .none, .ref 242, .int (782) 0, .int (151) 0, .str (oS "/claim/cut.py") 783].toArray, [].toArray⟩
noncomputable def o244 (P : Params) : Obj := fO (topFn 34) "_parse_data" .none "mido.messages.strings" 757 243 none
noncomputable def o250 (P : Params) : Obj := ⟨.type "code", none, .fields [.str (oS "str2msg") 785, .str (oS "str2msg") 786, .str (oS "/claim/cut.py") 787, .int (158) 0, .int (1) 0, .int (0) 0, .int (0) 0, .int (3) 0, .ref 245, .bool true, .int (181) 0, .ref 246, .none, .ref 247, .ref 248, .ref 249, .int (796) 0, .int (158) 0, .str (oS "/claim/cut.py") 797].toArray, [].toArray⟩
noncomputable def o251 (P : Params) : Obj := fO (topFn 35) "str2msg" .none "mido.messages.strings" 757 250 none
noncomputable def o266 (P : Params) : Obj := ⟨.type "property", none, .fields [.ref 265, .none, .none, .none, .str (oS "type") 821, .bool false].toArray, [].toArray⟩
noncomputable def o274 (P : Params) : Obj := ⟨.type "property", none, .fields [.ref 273, .none, .none, .none, .str (oS "time") 829, .bool false].toArray, [].toArray⟩
noncomputable def o301 (P : Params) : Obj := ⟨.type "code", none, .fields [.str (oS "dict") 851, .str (oS "BaseMessage.dict") 852, .str (oS "/claim/cut.py") 853, .int (194) 0, .int (1) 0, .int (0) 0, .int (0) 0, .int (3) 0, .ref 296, .bool true, .int (181) 0, .ref 297, .none, .ref 298, .ref 299, .ref 300, .int (856) 0, .int (194) 0, .str (oS "/claim/cut.py") 857].toArray, [].toArray⟩
noncomputable def o302 (P : Params) : Obj := fO (clsFn 37 6) "BaseMessage.dict" .none "mido.messages.messages" 799 301 none
noncomputable def o308 (P : Params) : Obj := ⟨.type "code", none, .fields [.str (oS "from_dict") 859, .str (oS "BaseMessage.from_dict") 860, .str (oS "/claim/cut.py") 861, .int (200) 0, .int (2) 0, .int (0) 0, .int (0) 0, .int (3) 0, .ref 303, .bool true, .int (181) 0, .ref 304, .none, .ref 305, .ref 306, .ref 307, .int (864) 0, .int (200) 0, .str (oS "/claim/cut.py") 865].toArray, [].toArray⟩
noncomputable def o309 (P : Params) : Obj := fO (clsFn 37 7) "BaseMessage.from_dict" .none "mido.messages.messages" 799 308 (some 312)
noncomputable def o311 (P : Params) : Obj := ⟨.type "classmethod", (some 310), .fields [.ref 309, .bool false].toArray, [].toArray⟩
noncomputable def o320 (P : Params) : Obj := ⟨.type "property", none, .fields [.ref 319, .none, .none, .none, .str (oS "is_realtime") 886, .bool false].toArray, [].toArray⟩
noncomputable def o334 (P : Params) : Obj := ⟨.type "code", none, .fields [.str (oS "__eq__") 895, .str (oS "BaseMessage.__eq__") 896, .str (oS "/claim/cut.py") 897, .int (211) 0, .int (2) 0, .int (0) 0, .int (0) 0, .int (3) 0, .ref 329, .bool true, .int (181) 0, .ref 330, .none, .ref 331, .ref 332, .ref 333, .int (900) 0, .int (211) 0, .str (oS "/claim/cut.py") 901].toArray, [].toArray⟩
noncomputable def o335 (P : Params) : Obj := fO (clsFn 37 10) "BaseMessage.__eq__" .none "mido.messages.messages" 799 334 none
noncomputable def o337 (P : Params) : Obj := ⟨.type "dict", none, .dict ((en P "__module__" 808 (.str (oS "mido.messages.messages") 799) :: en P "__firstlineno__" 812 (.int (174) 811) :: en P "is_meta" 813 (.bool false) :: en P "type" 821 (.ref 266) :: en P "time" 829 (.ref 274) :: en P "copy" 836 (.ref 281) :: en P "bytes" 843 (.ref 288) :: en P "bin" 850 (.ref 295) :: en P "dict" 858 (.ref 302) :: en P "from_dict" 878 (.ref 311) :: en P "is_realtime" 886 (.ref 320) :: en P "is_cc" 894 (.ref 328) :: en P "__eq__" 902 (.ref 335) :: en P "__static_attributes__" 903 (.ref 336) :: en P "__dict__" 905 (.ref 339) :: en P "__weakref__" 907 (.ref 340) :: en P "__doc__" 908 .none :: en P "__hash__" 909 .none :: []) : List DictEntry).toArray 5, [].toArray⟩
noncomputable def o338 (P : Params) : Obj := ⟨.type "type", none, .cls { name := (oS "BaseMessage"), bases := [.type "object"], mro := [.ref 338, .type "object"], ns := 337, qualname := (oS "BaseMessage"), hasDict := true, slotNames := [], subclasses := [.ref 418], abstract := false, collection := none, hasDel := false }, [none, none, (some (.str (oS "BaseMessage") 801)), (some (.str (oS "BaseMessage") 809)), (some (.builtin "object.__new__")), (some (.bool true))].toArray⟩
noncomputable def o350 (P : Params) : Obj := ⟨.type "tuple", none, .seq [.none, .bool false].toArray 0, [].toArray⟩
noncomputable def o356 (P : Params) : Obj := ⟨.type "code", none, .fields [.str (oS "__init__") 924, .str (oS "Message.__init__") 925, .str (oS "/claim/cut.py") 926, .int (217) 0, .int (3) 0, .int (0) 0, .int (0) 0, .int (11) 0, .ref 351, .bool true, .int (181) 0, .ref 352, .none, .ref 353, .ref 354, .ref 355, .int (932) 0, .int (217) 0, .str (oS "/claim/cut.py") 933].toArray, [].toArray⟩
noncomputable def o357 (P : Params) : Obj := fO (clsFn 38 0) "Message.__init__" (.ref 350) "mido.messages.messages" 799 356 none
noncomputable def o365 (P : Params) : Obj := ⟨.type "property", none, .fields [.ref 364, .none, .none, .none, .str (oS "data") 942, .bool false].toArray, [].toArray⟩
noncomputable def o383 (P : Params) : Obj := ⟨.type "classmethod", (some 382), .fields [.ref 381, .bool false].toArray, [].toArray⟩
noncomputable def o390 (P : Params) : Obj := ⟨.type "code", none, .fields [.str (oS "from_str") 976, .str (oS "Message.from_str") 977, .str (oS "/claim/cut.py") 978, .int (249) 0, .int (2) 0, .int (0) 0, .int (0) 0, .int (3) 0, .ref 385, .bool true, .int (181) 0, .ref 386, .none, .ref 387, .ref 388, .ref 389, .int (981) 0, .int (249) 0, .str (oS "/claim/cut.py") 982].toArray, [].toArray⟩
noncomputable def o391 (P : Params) : Obj := fO (clsFn 38 4) "Message.from_str" .none "mido.messages.messages" 799 390 (some 394)
noncomputable def o393 (P : Params) : Obj := ⟨.type "classmethod", (some 392), .fields [.ref 391, .bool false].toArray, [].toArray⟩
noncomputable def o417 (P : Params) : Obj := ⟨.type "dict", none, .dict ((en P "__module__" 919 (.str (oS "mido.messages.messages") 799) :: en P "__firstlineno__" 923 (.int (215) 922) :: en P "__init__" 934 (.ref 357) :: en P "data" 942 (.ref 365) :: en P "copy" 953 (.ref 373) :: en P "from_bytes" 975 (.ref 383) :: en P "from_str" 995 (.ref 393) :: en P "__len__" 1002 (.ref 401) :: en P "_setattr" 1011 (.ref 408) :: en P "bytes" 1018 (.ref 415) :: en P "__static_attributes__" 1020 (.ref 416) :: en P "__doc__" 1021 .none :: []) : List DictEntry).toArray 2, [].toArray⟩
noncomputable def o418 (P : Params) : Obj := ⟨.type "type", none, .cls { name := (oS "Message"), bases := [.ref 338], mro := [.ref 418, .ref 338, .type "object"], ns := 417, qualname := (oS "Message"), hasDict := true, slotNames := [], subclasses := [], abstract := false, collection := none, hasDel := false }, [(some (.ref 343)), none, (some (.str (oS "Message") 912)), (some (.str (oS "Message") 920)), (some (.builtin "object.__new__")), (some (.bool true))].toArray⟩
noncomputable def o426 (P : Params) : Obj := ⟨.type "code", none, .fields [.str (oS "parse_string") 1024, .str (oS "parse_string") 1025, .str (oS "/claim/cut.py") 1026, .int (264) 0, .int (1) 0, .int (0) 0, .int (0) 0, .int (3) 0, .ref 421, .bool true, .int (181) 0, .ref 422, .none, .ref 423, .ref 424, .ref 425, .int (1028) 0, .int (264) 0, .str (oS "/claim/cut.py") 1029].toArray, [].toArray⟩
noncomputable def o427 (P : Params) : Obj := fO (topFn 39) "parse_string" .none "mido.messages.messages" 799 426 none
noncomputable def o433 (P : Params) : Obj := ⟨.type "code", none, .fields [.str (oS "parse_string_stream") 1031, .str (oS "parse_string_stream") 1032, .str (oS "/claim/cut.py") 1033, .int (266) 0, .int (1) 0, .int (0) 0, .int (0) 0, .int (35) 0, .ref 428, .bool true, .int (181) 0, .ref 429, .none, .ref 430, .ref 431, .ref 432, .int (1039) 0, .int (266) 0, .str (oS "/claim/cut.py") 1040].toArray, [].toArray⟩
noncomputable def o434 (P : Params) : Obj := fO (topFn 40) "parse_string_stream" .none "mido.messages.messages" 799 433 none
noncomputable def o435 (P : Params) : Obj := ⟨.type "tuple", none, .seq [.bool true].toArray 0, [].toArray⟩
noncomputable def o441 (P : Params) : Obj := ⟨.type "code", none, .fields [.str (oS "format_as_string") 1042, .str (oS "format_as_string") 1043, .str (oS "/claim/cut.py") 1044, .int (282) 0, .int (2) 0, .int (0) 0, .int (0) 0, .int (3) 0, .ref 436, .bool true, .int (181) 0, .ref 437, .none, .ref 438, .ref 439, .ref 440, .int (1047) 0, .int (282) 0, .str (oS "/claim/cut.py") 1048].toArray, [].toArray⟩
noncomputable def o442 (P : Params) : Obj := fO (topFn 41) "format_as_string" (.ref 435) "mido.messages.messages" 799 441 none
noncomputable def o443 (P : Params) : Obj := ⟨.type "list", none, .seq [.str (oS "note") 1054, .str (oS "velocity") 1055].toArray 0, [].toArray⟩
noncomputable def o444 (P : Params) : Obj := ⟨.type "tuple", none, .seq [.str (oS "note_off") 1052, .int (128) 1053, .bool true, .ref 443].toArray 0, [].toArray⟩
noncomputable def o445 (P : Params) : Obj := ⟨.type "list", none, .seq [.str (oS "note") 1058, .str (oS "velocity") 1059].toArray 0, [].toArray⟩
noncomputable def o446 (P : Params) : Obj := ⟨.type "tuple", none, .seq [.str (oS "note_on") 1056, .int (144) 1057, .bool true, .ref 445].toArray 0, [].toArray⟩
noncomputable def o447 (P : Params) : Obj := ⟨.type "list", none, .seq [.str (oS "note") 1062, .str (oS "value") 1063].toArray 0, [].toArray⟩
noncomputable def o448 (P : Params) : Obj := ⟨.type "tuple", none, .seq [.str (oS "polytouch") 1060, .int (160) 1061, .bool true, .ref 447].toArray 0, [].toArray⟩
noncomputable def o449 (P : Params) : Obj := ⟨.type "list", none, .seq [.str (oS "control") 1066, .str (oS "value") 1067].toArray 0, [].toArray⟩
noncomputable def o450 (P : Params) : Obj := ⟨.type "tuple", none, .seq [.str (oS "control_change") 1064, .int (176) 1065, .bool true, .ref 449].toArray 0, [].toArray⟩
noncomputable def o451 (P : Params) : Obj := ⟨.type "list", none, .seq [.str (oS "program") 1070].toArray 0, [].toArray⟩
noncomputable def o452 (P : Params) : Obj := ⟨.type "tuple", none, .seq [.str (oS "program_change") 1068, .int (192) 1069, .bool true, .ref 451].toArray 0, [].toArray⟩
noncomputable def o453 (P : Params) : Obj := ⟨.type "list", none, .seq [.str (oS "value") 1073].toArray 0, [].toArray⟩
noncomputable def o454 (P : Params) : Obj := ⟨.type "tuple", none, .seq [.str (oS "aftertouch") 1071, .int (208) 1072, .bool true, .ref 453].toArray 0, [].toArray⟩
noncomputable def o455 (P : Params) : Obj := ⟨.type "list", none, .seq [.str (oS "pitch") 1076].toArray 0, [].toArray⟩
noncomputable def o456 (P : Params) : Obj := ⟨.type "tuple", none, .seq [.str (oS "pitchwheel") 1074, .int (224) 1075, .bool true, .ref 455].toArray 0, [].toArray⟩
noncomputable def o457 (P : Params) : Obj := ⟨.type "list", none, .seq [.str (oS "data") 1079].toArray 0, [].toArray⟩
noncomputable def o458 (P : Params) : Obj := ⟨.type "tuple", none, .seq [.str (oS "sysex") 1077, .int (240) 1078, .bool false, .ref 457].toArray 0, [].toArray⟩
noncomputable def o459 (P : Params) : Obj := ⟨.type "list", none, .seq [.str (oS "frame_type") 1082, .str (oS "frame_value") 1083].toArray 0, [].toArray⟩
noncomputable def o460 (P : Params) : Obj := ⟨.type "tuple", none, .seq [.str (oS "quarter_frame") 1080, .int (241) 1081, .bool false, .ref 459].toArray 0, [].toArray⟩
noncomputable def o461 (P : Params) : Obj := ⟨.type "list", none, .seq [.str (oS "pos") 1086].toArray 0, [].toArray⟩
noncomputable def o462 (P : Params) : Obj := ⟨.type "tuple", none, .seq [.str (oS "songpos") 1084, .int (242) 1085, .bool false, .ref 461].toArray 0, [].toArray⟩
noncomputable def o463 (P : Params) : Obj := ⟨.type "list", none, .seq [.str (oS "song") 1089].toArray 0, [].toArray⟩
noncomputable def o464 (P : Params) : Obj := ⟨.type "tuple", none, .seq [.str (oS "song_select") 1087, .int (243) 1088, .bool false, .ref 463].toArray 0, [].toArray⟩
noncomputable def o465 (P : Params) : Obj := ⟨.type "list", none, .seq [].toArray 0, [].toArray⟩
noncomputable def o466 (P : Params) : Obj := ⟨.type "tuple", none, .seq [.str (oS "tune_request") 1090, .int (246) 1091, .bool false, .ref 465].toArray 0, [].toArray⟩
noncomputable def o467 (P : Params) : Obj := ⟨.type "list", none, .seq [].toArray 0, [].toArray⟩
noncomputable def o468 (P : Params) : Obj := ⟨.type "tuple", none, .seq [.str (oS "clock") 1092, .int (248) 1093, .bool false, .ref 467].toArray 0, [].toArray⟩
noncomputable def o469 (P : Params) : Obj := ⟨.type "list", none, .seq [].toArray 0, [].toArray⟩
noncomputable def o470 (P : Params) : Obj := ⟨.type "tuple", none, .seq [.str (oS "start") 1094, .int (250) 1095, .bool false, .ref 469].toArray 0, [].toArray⟩
noncomputable def o471 (P : Params) : Obj := ⟨.type "list", none, .seq [].toArray 0, [].toArray⟩
noncomputable def o472 (P : Params) : Obj := ⟨.type "tuple", none, .seq [.str (oS "continue") 1096, .int (251) 1097, .bool false, .ref 471].toArray 0, [].toArray⟩
noncomputable def o473 (P : Params) : Obj := ⟨.type "list", none, .seq [].toArray 0, [].toArray⟩
noncomputable def o474 (P : Params) : Obj := ⟨.type "tuple", none, .seq [.str (oS "stop") 1098, .int (252) 1099, .bool false, .ref 473].toArray 0, [].toArray⟩
noncomputable def o475 (P : Params) : Obj := ⟨.type "list", none, .seq [].toArray 0, [].toArray⟩
noncomputable def o476 (P : Params) : Obj := ⟨.type "tuple", none, .seq [.str (oS "active_sensing") 1100, .int (254) 1101, .bool false, .ref 475].toArray 0, [].toArray⟩
noncomputable def o477 (P : Params) : Obj := ⟨.type "list", none, .seq [].toArray 0, [].toArray⟩
noncomputable def o478 (P : Params) : Obj := ⟨.type "tuple", none, .seq [.str (oS "reset") 1102, .int (255) 1103, .bool false, .ref 477].toArray 0, [].toArray⟩
noncomputable def o479 (P : Params) : Obj := ⟨.type "list", none, .seq [.ref 444, .ref 446, .ref 448, .ref 450, .ref 452, .ref 454, .ref 456, .ref 458, .ref 460, .ref 462, .ref 464, .ref 466, .ref 468, .ref 470, .ref 472, .ref 474, .ref 476, .ref 478].toArray 0, [].toArray⟩
noncomputable def o485 (P : Params) : Obj := ⟨.type "code", none, .fields [.str (oS "_law_sevens") 1105, .str (oS "_law_sevens") 1106, .str (oS "/claim/cut.py") 1107, .int (286) 0, .int (2) 0, .int (0) 0, .int (0) 0, .int (3) 0, .ref 480, .bool true, .int (181) 0, .ref 481, .none, .ref 482, .ref 483, .ref 484, .int (1111) 0, .int (286) 0, .str (oS "/claim/cut.py") 1112].toArray, [].toArray⟩
noncomputable def o486 (P : Params) : Obj := fO (topFn 44) "_law_sevens" .none "law_ae0015_01" 1050 485 none
noncomputable def o492 (P : Params) : Obj := ⟨.type "code", none, .fields [.str (oS "_law_values") 1114, .str (oS "_law_values") 1115, .str (oS "/claim/cut.py") 1116, .int (292) 0, .int (4) 0, .int (0) 0, .int (0) 0, .int (3) 0, .ref 487, .bool true, .int (181) 0, .ref 488, .none, .ref 489, .ref 490, .ref 491, .int (1123) 0, .int (292) 0, .str (oS "/claim/cut.py") 1124].toArray, [].toArray⟩
noncomputable def o493 (P : Params) : Obj := fO (topFn 45) "_law_values" .none "law_ae0015_01" 1050 492 none
noncomputable def o497 (P : Params) : Obj := ⟨.type "code", none, .fields [.str (oS "_law_words") 1126, .str (oS "_law_words") 1127, .str (oS "/claim/cut.py") 1128, .int (312) 0, .int (2) 0, .int (0) 0, .int (0) 0, .int (3) 0, .ref 494, .bool true, .int (181) 0, .ref 495, .none, .none, .none, .ref 496, .int (1129) 0, .int (312) 0, .str (oS "/claim/cut.py") 1130].toArray, [].toArray⟩
noncomputable def o498 (P : Params) : Obj := fO (topFn 46) "_law_words" .none "law_ae0015_01" 1050 497 none
noncomputable def o504 (P : Params) : Obj := ⟨.type "code", none, .fields [.str (oS "_law_defaults") 1132, .str (oS "_law_defaults") 1133, .str (oS "/claim/cut.py") 1134, .int (322) 0, .int (1) 0, .int (0) 0, .int (0) 0, .int (3) 0, .ref 499, .bool true, .int (181) 0, .ref 500, .none, .ref 501, .ref 502, .ref 503, .int (1138) 0, .int (322) 0, .str (oS "/claim/cut.py") 1139].toArray, [].toArray⟩
noncomputable def o505 (P : Params) : Obj := fO (topFn 47) "_law_defaults" .none "law_ae0015_01" 1050 504 none
noncomputable def o511 (P : Params) : Obj := ⟨.type "code", none, .fields [.str (oS "_law_line") 1141, .str (oS "_law_line") 1142, .str (oS "/claim/cut.py") 1143, .int (333) 0, .int (4) 0, .int (0) 0, .int (0) 0, .int (3) 0, .ref 506, .bool true, .int (181) 0, .ref 507, .none, .ref 508, .ref 509, .ref 510, .int (1149) 0, .int (333) 0, .str (oS "/claim/cut.py") 1150].toArray, [].toArray⟩
noncomputable def o512 (P : Params) : Obj := fO (topFn 48) "_law_line" .none "law_ae0015_01" 1050 511 none
noncomputable def o518 (P : Params) : Obj := ⟨.type "code", none, .fields [.str (oS "law") 1152, .str (oS "law") 1153, .str (oS "/claim/cut.py") 1154, .int (348) 0, .int (1) 0, .int (0) 0, .int (0) 0, .int (3) 0, .ref 513, .bool true, .int (181) 0, .ref 514, .none, .ref 515, .ref 516, .ref 517, .int (1178) 0, .int (348) 0, .str (oS "/claim/cut.py") 1179].toArray, [].toArray⟩
noncomputable def o519 (P : Params) : Obj := fO (topFn 49) "law" .none "law_ae0015_01" 1050 518 none
noncomputable def KK (P : Params) : Frag :=
 (nat_lit 2, o2 P) ::
 (nat_lit 3, o3 P) ::
 (nat_lit 29, o29 P) ::
 (nat_lit 30, o30 P) ::
 (nat_lit 31, o31 P) ::
 (nat_lit 32, o32 P) ::
 (nat_lit 33, o33 P) ::
 (nat_lit 34, o34 P) ::
 (nat_lit 35, o35 P) ::
 (nat_lit 36, o36 P) ::
 (nat_lit 37, o37 P) ::
 (nat_lit 38, o38 P) ::
 (nat_lit 39, o39 P) ::
 (nat_lit 40, o40 P) ::
 (nat_lit 41, o41 P) ::
 (nat_lit 42, o42 P) ::
 (nat_lit 43, o43 P) ::
 (nat_lit 44, o44 P) ::
 (nat_lit 45, o45 P) ::
 (nat_lit 46, o46 P) ::
 (nat_lit 47, o47 P) ::
 (nat_lit 48, o48 P) ::
 (nat_lit 49, o49 P) ::
 (nat_lit 50, o50 P) ::
 (nat_lit 51, o51 P) ::
 (nat_lit 52, o52 P) ::
 (nat_lit 53, o53 P) ::
 (nat_lit 54, o54 P) ::
 (nat_lit 55, o55 P) ::
 (nat_lit 56, o56 P) ::
 (nat_lit 57, o57 P) ::
 (nat_lit 58, o58 P) ::
 (nat_lit 59, o59 P) ::
 (nat_lit 60, o60 P) ::
 (nat_lit 61, o61 P) ::
 (nat_lit 62, o62 P) ::
 (nat_lit 63, o63 P) ::
 (nat_lit 64, o64 P) ::
 (nat_lit 65, o65 P) ::
 (nat_lit 66, o66 P) ::
 (nat_lit 67, o67 P) ::
 (nat_lit 68, o68 P) ::
 (nat_lit 69, o69 P) ::
 (nat_lit 70, o70 P) ::
 (nat_lit 71, o71 P) ::
 (nat_lit 72, o72 P) ::
 (nat_lit 73, o73 P) ::
 (nat_lit 74, o74 P) ::
 (nat_lit 75, o75 P) ::
 (nat_lit 76, o76 P) ::
 (nat_lit 77, o77 P) ::
 (nat_lit 78, o78 P) ::
 (nat_lit 79, o79 P) ::
 (nat_lit 80, o80 P) ::
 (nat_lit 81, o81 P) ::
 (nat_lit 82, o82 P) ::
 (nat_lit 83, o83 P) ::
 (nat_lit 84, o84 P) ::
 (nat_lit 85, o85 P) ::
 (nat_lit 86, o86 P) ::
 (nat_lit 92, o92 P) ::
 (nat_lit 93, o93 P) ::
 (nat_lit 99, o99 P) ::
 (nat_lit 100, o100 P) ::
 (nat_lit 106, o106 P) ::
 (nat_lit 107, o107 P) ::
 (nat_lit 113, o113 P) ::
 (nat_lit 114, o114 P) ::
 (nat_lit 120, o120 P) ::
 (nat_lit 121, o121 P) ::
 (nat_lit 127, o127 P) ::
 (nat_lit 128, o128 P) ::
 (nat_lit 134, o134 P) ::
 (nat_lit 135, o135 P) ::
 (nat_lit 141, o141 P) ::
 (nat_lit 142, o142 P) ::
 (nat_lit 148, o148 P) ::
 (nat_lit 149, o149 P) ::
 (nat_lit 155, o155 P) ::
 (nat_lit 156, o156 P) ::
 (nat_lit 162, o162 P) ::
 (nat_lit 163, o163 P) ::
 (nat_lit 169, o169 P) ::
 (nat_lit 170, o170 P) ::
 (nat_lit 225, o225 P) ::
 (nat_lit 231, o231 P) ::
 (nat_lit 232, o232 P) ::
 (nat_lit 238, o238 P) ::
 (nat_lit 239, o239 P) ::
 (nat_lit 243, o243 P) ::
 (nat_lit 244, o244 P) ::
 (nat_lit 250, o250 P) ::
 (nat_lit 251, o251 P) ::
 (nat_lit 266, o266 P) ::
 (nat_lit 274, o274 P) ::
 (nat_lit 301, o301 P) ::
 (nat_lit 302, o302 P) ::
 (nat_lit 308, o308 P) ::
 (nat_lit 309, o309 P) ::
 (nat_lit 311, o311 P) ::
 (nat_lit 320, o320 P) ::
 (nat_lit 334, o334 P) ::
 (nat_lit 335, o335 P) ::
 (nat_lit 337, o337 P) ::
 (nat_lit 338, o338 P) ::
 (nat_lit 350, o350 P) ::
 (nat_lit 356, o356 P) ::
 (nat_lit 357, o357 P) ::
 (nat_lit 365, o365 P) ::
 (nat_lit 383, o383 P) ::
 (nat_lit 390, o390 P) ::
 (nat_lit 391, o391 P) ::
 (nat_lit 393, o393 P) ::
 (nat_lit 417, o417 P) ::
 (nat_lit 418, o418 P) ::
 (nat_lit 426, o426 P) ::
 (nat_lit 427, o427 P) ::
 (nat_lit 433, o433 P) ::
 (nat_lit 434, o434 P) ::
 (nat_lit 435, o435 P) ::
 (nat_lit 441, o441 P) ::
 (nat_lit 442, o442 P) ::
 (nat_lit 443, o443 P) ::
 (nat_lit 444, o444 P) ::
 (nat_lit 445, o445 P) ::
 (nat_lit 446, o446 P) ::
 (nat_lit 447, o447 P) ::
 (nat_lit 448, o448 P) ::
 (nat_lit 449, o449 P) ::
 (nat_lit 450, o450 P) ::
 (nat_lit 451, o451 P) ::
 (nat_lit 452, o452 P) ::
 (nat_lit 453, o453 P) ::
 (nat_lit 454, o454 P) ::
 (nat_lit 455, o455 P) ::
 (nat_lit 456, o456 P) ::
 (nat_lit 457, o457 P) ::
 (nat_lit 458, o458 P) ::
 (nat_lit 459, o459 P) ::
 (nat_lit 460, o460 P) ::
 (nat_lit 461, o461 P) ::
 (nat_lit 462, o462 P) ::
 (nat_lit 463, o463 P) ::
 (nat_lit 464, o464 P) ::
 (nat_lit 465, o465 P) ::
 (nat_lit 466, o466 P) ::
 (nat_lit 467, o467 P) ::
 (nat_lit 468, o468 P) ::
 (nat_lit 469, o469 P) ::
 (nat_lit 470, o470 P) ::
 (nat_lit 471, o471 P) ::
 (nat_lit 472, o472 P) ::
 (nat_lit 473, o473 P) ::
 (nat_lit 474, o474 P) ::
 (nat_lit 475, o475 P) ::
 (nat_lit 476, o476 P) ::
 (nat_lit 477, o477 P) ::
 (nat_lit 478, o478 P) ::
 (nat_lit 479, o479 P) ::
 (nat_lit 485, o485 P) ::
 (nat_lit 486, o486 P) ::
 (nat_lit 492, o492 P) ::
 (nat_lit 493, o493 P) ::
 (nat_lit 497, o497 P) ::
 (nat_lit 498, o498 P) ::
 (nat_lit 504, o504 P) ::
 (nat_lit 505, o505 P) ::
 (nat_lit 511, o511 P) ::
 (nat_lit 512, o512 P) ::
 (nat_lit 518, o518 P) ::
 (nat_lit 519, o519 P) ::
 []
noncomputable def KA : List Addr := (nat_lit 2 :: nat_lit 3 :: nat_lit 29 :: nat_lit 30 :: nat_lit 31 :: nat_lit 32 :: nat_lit 33 :: nat_lit 34 :: nat_lit 35 :: nat_lit 36 :: nat_lit 37 :: nat_lit 38 :: nat_lit 39 :: nat_lit 40 :: nat_lit 41 :: nat_lit 42 :: nat_lit 43 :: nat_lit 44 :: nat_lit 45 :: nat_lit 46 :: nat_lit 47 :: nat_lit 48 :: nat_lit 49 :: nat_lit 50 :: nat_lit 51 :: nat_lit 52 :: nat_lit 53 :: nat_lit 54 :: nat_lit 55 :: nat_lit 56 :: nat_lit 57 :: nat_lit 58 :: nat_lit 59 :: nat_lit 60 :: nat_lit 61 :: nat_lit 62 :: nat_lit 63 :: nat_lit 64 :: nat_lit 65 :: nat_lit 66 :: nat_lit 67 :: nat_lit 68 :: nat_lit 69 :: nat_lit 70 :: nat_lit 71 :: nat_lit 72 :: nat_lit 73 :: nat_lit 74 :: nat_lit 75 :: nat_lit 76 :: nat_lit 77 :: nat_lit 78 :: nat_lit 79 :: nat_lit 80 :: nat_lit 81 :: nat_lit 82 :: nat_lit 83 :: nat_lit 84 :: nat_lit 85 :: nat_lit 86 :: nat_lit 92 :: nat_lit 93 :: nat_lit 99 :: nat_lit 100 :: nat_lit 106 :: nat_lit 107 :: nat_lit 113 :: nat_lit 114 :: nat_lit 120 :: nat_lit 121 :: nat_lit 127 :: nat_lit 128 :: nat_lit 134 :: nat_lit 135 :: nat_lit 141 :: nat_lit 142 :: nat_lit 148 :: nat_lit 149 :: nat_lit 155 :: nat_lit 156 :: nat_lit 162 :: nat_lit 163 :: nat_lit 169 :: nat_lit 170 :: nat_lit 225 :: nat_lit 231 :: nat_lit 232 :: nat_lit 238 :: nat_lit 239 :: nat_lit 243 :: nat_lit 244 :: nat_lit 250 :: nat_lit 251 :: nat_lit 266 :: nat_lit 274 :: nat_lit 301 :: nat_lit 302 :: nat_lit 308 :: nat_lit 309 :: nat_lit 311 :: nat_lit 320 :: nat_lit 334 :: nat_lit 335 :: nat_lit 337 :: nat_lit 338 :: nat_lit 350 :: nat_lit 356 :: nat_lit 357 :: nat_lit 365 :: nat_lit 383 :: nat_lit 390 :: nat_lit 391 :: nat_lit 393 :: nat_lit 417 :: nat_lit 418 :: nat_lit 426 :: nat_lit 427 :: nat_lit 433 :: nat_lit 434 :: nat_lit 435 :: nat_lit 441 :: nat_lit 442 :: nat_lit 443 :: nat_lit 444 :: nat_lit 445 :: nat_lit 446 :: nat_lit 447 :: nat_lit 448 :: nat_lit 449 :: nat_lit 450 :: nat_lit 451 :: nat_lit 452 :: nat_lit 453 :: nat_lit 454 :: nat_lit 455 :: nat_lit 456 :: nat_lit 457 :: nat_lit 458 :: nat_lit 459 :: nat_lit 460 :: nat_lit 461 :: nat_lit 462 :: nat_lit 463 :: nat_lit 464 :: nat_lit 465 :: nat_lit 466 :: nat_lit 467 :: nat_lit 468 :: nat_lit 469 :: nat_lit 470 :: nat_lit 471 :: nat_lit 472 :: nat_lit 473 :: nat_lit 474 :: nat_lit 475 :: nat_lit 476 :: nat_lit 477 :: nat_lit 478 :: nat_lit 479 :: nat_lit 485 :: nat_lit 486 :: nat_lit 492 :: nat_lit 493 :: nat_lit 497 :: nat_lit 498 :: nat_lit 504 :: nat_lit 505 :: nat_lit 511 :: nat_lit 512 :: nat_lit 518 :: nat_lit 519 :: [])
section
variable {prog : Program} {w : World} {A : Around} {E : Value -> Shared -> Prop} {Q : Flow -> Shared -> Prop} {s : Shared} {env : Env} {hZ : Heap} {L : Addr}
noncomputable abbrev ov (mZ : Str -> Option Value) (ps : List (Str × Value)) : Str -> Option Value := kstB mZ ps
noncomputable def WEnd {σ : Type} (hZ : Heap) (L : Addr) (s : Shared) (mZ : Str -> Option Value) (ps : σ -> List (Str × Value)) (Led : σ -> List (Addr × Obj)) (G : σ -> Array GenState) (P : σ -> Prop) (μ : σ -> Nat) (c : σ) (sB : Shared) : Prop :=
 ∃ (c' : σ) (h' : Heap) (tk : Nat), sB = (Sg s h' (G c') tk) /\ Fr hZ L h' (ov mZ (ps c')) /\ News hZ L h' (Led c') /\ P c' /\ μ c' < μ c
noncomputable def WPost {σ : Type} (hZ : Heap) (L : Addr) (s : Shared) (mZ : Str -> Option Value) (ps : σ -> List (Str × Value)) (Led : σ -> List (Addr × Obj)) (G : σ -> Array GenState) (P : σ -> Prop) (μ : σ -> Nat) (Q : Flow -> Shared -> Prop) (c : σ) (f : Flow) (sB : Shared) : Prop :=
 match f with
 | .ret v => Q (.ret v) sB
 | .brk => Q .next sB
 | _ => WEnd hZ L s mZ ps Led G P μ c sB
end
section
variable {prog : Program} {w : World} {A : Around} {E : Value -> Shared -> Prop} {Q : Flow -> Shared -> Prop} {s : Shared} {env : Env} {hZ : Heap}
noncomputable def Mid (R : Shared -> Prop) (f : Flow) (sB : Shared) : Prop := f = .next /\ R sB
theorem join_J {M : Model} (R : Shared -> Prop) {st : Stmt} {rest : List Stmt} (h1 : wpAny M A (exec st env) (Mid R) E s)
  (h2 : ∀ sB, R sB -> wpAny M A (execs rest env) Q E sB) : wpAny M A (execs (st :: rest) env) Q E s := by
 refine wpAny_execs_cons (wpAny_mono h1 (fun f sB h => ?_) fun _ _ e => e)
 obtain ⟨rfl, h⟩ := h
 exact h2 sB h
noncomputable def ForEnd {σ : Type} (hZ : Heap) (L : Addr) (s : Shared) (Led : σ -> List (Addr × Obj)) (P : Nat -> σ -> (Str -> Option Value) -> Array GenState -> Prop) (muts : List Addr) (i : Nat) (rest : List (Addr × Obj)) (sB : Shared) : Prop :=
 ∃ (c' : σ) (m' : Str -> Option Value) (h' : Heap) (g' : Array GenState) (tk' : Nat) (rest' : List (Addr × Obj)), sB = (Sg s h' g' tk') /\ Fr hZ L h' m' /\ News hZ L h' (Led c' ++ rest') /\
  (∀ q ∈ rest, q ∈ rest') /\ (∀ q ∈ rest', q.1 ∉ muts) /\ P (i + 1) c' m' g'
noncomputable def ForPost {σ : Type} (hZ : Heap) (L : Addr) (s : Shared) (Led : σ -> List (Addr × Obj)) (P : Nat -> σ -> (Str -> Option Value) -> Array GenState -> Prop) (muts : List Addr) (Q : Flow -> Shared -> Prop) (i : Nat) (rest : List (Addr × Obj)) (f : Flow) (sB : Shared) : Prop :=
 match f with
 | .ret v => Q (.ret v) sB
 | .brk => Q .next sB
 | _ => ForEnd hZ L s Led P muts i rest sB
noncomputable def plainO (o : Obj) : Prop := o.cls ≠ .type "list_iterator" /\ o.cls ≠ .type "tuple_iterator"
theorem for_W {σ : Type} {x : Str} {px : Pos} {body : List Stmt} {I l : Addr} {n : Nat} {PV : Nat -> Value -> Prop} {St : Nat -> Heap -> Prop} {ol : Obj} {mZ : Str -> Option Value}
  (W : Walks prog w A I [I, l] [I] n PV St) (hlive : ∀ i h, St i h -> ∃ o, h.get? I = some o /\ ¬ plainO o) (hx : env.kindOf x = some .local)
  (hpp : (env.scope.kind == .class || (env.scope.kind == .module && env.locals != env.globals)) = false)
  (Led : σ -> List (Addr × Obj)) (P : Nat -> σ -> (Str -> Option Value) -> Array GenState -> Prop) (cZ : σ) (muts : List Addr) (newsZ : List (Addr × Obj))
  (F : Fr hZ env.locals s.heap mZ) (N : News hZ env.locals s.heap (Led cZ ++ newsZ)) (hn : ∀ q ∈ newsZ, q.1 ∉ muts) (hIm : I ∉ muts) (hI : ∀ q ∈ newsZ, q.1 ≠ I) (hIn : hZ.get? I = none) (hIL : I ≠ env.locals)
  (hl : hZ.get? l = some ol ∨ (l, ol) ∈ newsZ) (hst : St 0 s.heap) (hp : P 0 cZ mZ s.gens) (hpl : ∀ i c m g, P i c m g -> ∀ p ∈ Led c, plainO p.2)
  (turn : ∀ (i : Nat) (c : σ) m h g tk rest v, i < n -> PV i v -> P i c m g -> (∀ q ∈ rest, q.1 ∉ muts) -> (∀ q ∈ newsZ, q ∈ rest) -> Fr hZ env.locals h (mput m x v) -> News hZ env.locals h (Led c ++ rest) ->
   wpAny (model prog w) A (execs body env) (ForPost hZ env.locals s Led P muts Q i rest) E (Sg s h g tk))
  (done : ∀ (c : σ) m h g tk, P n c m g -> Fr hZ env.locals h m -> News hZ env.locals h (Led c ++ newsZ) -> Q .next (Sg s h g tk))
  (hE : PassesOwn (model prog w) A env E) :
  codeAny (model prog w) A (.forLoop (.Name x px) (.ref I) body [] env) (fun r s' => match r with | .ok f => Q f s' | .error e => cameBackBy (model prog w) A env E e s') s := by
 obtain ⟨J, hJ⟩ : ∃ J : Nat -> Shared -> Prop, J = fun k s' => ∃ h' g tk m' i c rest, s' = (Sg s h' g tk) /\ St i h' /\ Fr hZ env.locals h' m' /\ News hZ env.locals h' (Led c ++ rest) /\ (∀ q ∈ rest, q.1 ∉ muts) /\ (∀ q ∈ newsZ, q ∈ rest) /\ P i c m' g /\ (∀ q ∈ rest, q.1 ≠ I) /\ i <= n /\ k = n + 1 - i := ⟨_, rfl⟩
 refine codeAny_forLoop J ?_ (n + 1) <| hJ ▸ ⟨s.heap, s.gens, s.toks, mZ, 0, cZ, newsZ, rfl, hst, F, N, hn, fun _ h => h, hp, hI, Nat.zero_le _, rfl⟩
 intro k s' y8
 rw [hJ] at y8
 apply ab2 k s'; intro T9 e9
 obtain ⟨h', g, tk, m', i, c, rest, rfl, hst', F', N', hr', hs', hP', hI', hi, rfl⟩ := y8
 subst e9
 have hlL : l ≠ env.locals := by
  rcases hl with q | q
  ·exact Nat.ne_of_lt (Nat.lt_of_lt_of_le (Heap.lt_size q) F.above)
  ·exact (N _ (zR _ q)).2.1
 have off : ∀ p ∈ Led c ++ rest, p.1 ∉ [I] := fun p hp q => by
  have e : p.1 = I := zS.mp q
  rcases zA.mp hp with r | r
  ·obtain ⟨o, ho, hno⟩ := hlive i h' hst'
   have := (N' p hp).1
   rw [e, ho] at this
   exact hno ((Option.some.inj this) ▸ hpl _ _ _ _ hP' p r)
  ·exact hI' p r e
 by_cases hlt : i < n
 ·refine W.item i _ _ _ hlt hst' fun v hAZ tkA hPV hstA hkA => ?_
  have NA : News hZ env.locals hAZ (Led c ++ rest) := fun p hp => ⟨hkA _ _ (off p hp) (N' p hp).1, (N' p hp).2⟩
  have FA : Fr hZ env.locals hAZ m' := ⟨F'.ns.at' fun o e => hkA _ o (fun q => hIL (zS.mp q).symm) e, fun b o e => hkA b o (fun q => by rw [zS.mp q, hIn] at e; cases e) (F'.keep b o e), F'.above⟩
  refine wpAny_assign_Name (wpAny_storeName_local hx FA.ns (fun hBZ hnB hsB => ?_) hpp)
  have FB := FA.set hnB hsB
  have NB := NA.set hsB
  have hstB : St (i + 1) hBZ := W.frame _ _ _ hstA fun b hb o e => (hsB.2 b fun q => by
   rcases zC.mp hb with r | r
   ·exact hIL (r ▸ q)
   ·exact hlL ((zS.mp r) ▸ q)).trans e
  obtain ⟨oIB, hgIB, hno⟩ := hlive _ _ hstB
  have NCZ : News hZ env.locals hBZ (Led c ++ ((I, oIB) :: rest)) := fun p hp => by
   rcases zA.mp hp with q | q
   ·exact NB p (zL _ q)
   ·rcases zC.mp q with r | r
    ·rw [r]; exact ⟨hgIB, hIL, hIn⟩
    ·exact NB p (zR _ r)
  refine wpAny_mono (wpAny_passesOwn hE (turn i c m' hBZ g (tkA + 1) ((I, oIB) :: rest) v hlt hPV hP' (fun q hq => (zC.mp hq).elim (fun e => by rw [e]; exact hIm) (hr' q)) (fun q hq => .tail _ (hs' q hq)) FB NCZ)) (fun f sC hCZ => ?_) fun _ _ e => e
  have back : ForEnd hZ env.locals s Led P muts i ((I, oIB) :: rest) sC -> ∃ m_1, m_1 < n + 1 - i /\ J m_1 sC := by
   rintro ⟨c', mCZ, hpC, gC, tkC, rest', rfl, FCZ, ND, hsub, hmu, hPC⟩
   refine ⟨n + 1 - (i + 1), by omega, ?_⟩
   rw [hJ]
   refine ⟨hpC, gC, tkC, mCZ, i + 1, c', rest'.filter (fun p => decide (p.1 ≠ I)), rfl, ?_, FCZ, ?_, ?_, ?_, hPC, ?_, hlt, rfl⟩
   ·refine W.frame _ _ _ hstB fun b hb o e => ?_
    rcases zC.mp hb with r | r
    ·subst r
     rw [hgIB] at e
     rw [<- Option.some.inj e]
     exact (ND _ (zR _ (hsub _ (.head _)))).1
    ·rw [zS.mp r] at e ⊢
     rcases hl with q | q
     ·have := FB.keep l ol q
      rw [e] at this
      rw [Option.some.inj this]
      exact FCZ.keep l ol q
     ·have q' := hs' _ q
      have := (NB _ (zR _ q')).1
      rw [e] at this
      rw [Option.some.inj this]
      exact (ND _ (zR _ (hsub _ (.tail _ q')))).1
   ·intro p hp
    rcases zA.mp hp with q | q
    ·exact ND p (zL _ q)
    ·exact ND p (zR _ (List.mem_filter.mp q).1)
   ·exact fun q hq => hmu q (List.mem_filter.mp hq).1
   ·exact fun q hq => List.mem_filter.mpr ⟨hsub _ (.tail _ (hs' q hq)), by simpa using hI q hq⟩
   ·exact fun q hq => by simpa using (List.mem_filter.mp hq).2
  cases f with
  | ret v => exact hCZ
  | brk => exact hCZ
  | cont => exact back hCZ
  | next => exact back hCZ
 ·have hin : i = n := by omega
  subst hin
  refine W.done _ _ _ hst' fun hAZ tkA hkA => wpAny_execs_nil ?_
  refine done c m' hAZ g tkA hP' ⟨F'.ns.at' fun o e => hkA _ o (fun q => hIL (zS.mp q).symm) e, fun b o e => hkA b o (fun q => by rw [zS.mp q, hIn] at e; cases e) (F'.keep b o e), F'.above⟩ (fun p hp => ?_)
  have hp' : p ∈ Led c ++ rest := (zA.mp hp).elim (zL _) fun q => zR _ (hs' p q)
  exact ⟨hkA _ _ (off p hp') (N' p hp').1, (N' p hp').2⟩
theorem for_J {σ : Type} {x : Str} {px : Pos} {body : List Stmt} {l : Addr} {ol : Obj} {mZ : Str -> Option Value} {items : List Value} {ep : Nat} (tup : Bool)
  (hh : A.handled = none) (hx : env.kindOf x = some .local) (hpp : (env.scope.kind == .class || (env.scope.kind == .module && env.locals != env.globals)) = false)
  (Led : σ -> List (Addr × Obj)) (P : Nat -> σ -> (Str -> Option Value) -> Array GenState -> Prop) (cZ : σ) (muts : List Addr) (newsZ : List (Addr × Obj))
  (hc : ol.cls = .type (if tup then "tuple" else "list")) (hd : ol.data = .seq items.toArray ep)
  (F : Fr hZ env.locals s.heap mZ) (N : News hZ env.locals s.heap (Led cZ ++ newsZ)) (hn : ∀ q ∈ newsZ, q.1 ∉ muts) (hm : ∀ a ∈ muts, ∃ o, (a, o) ∈ Led cZ)
  (hl : hZ.get? l = some ol ∨ (l, ol) ∈ newsZ) (hp : P 0 cZ mZ s.gens) (hpl : ∀ i c m g, P i c m g -> ∀ p ∈ Led c, plainO p.2)
  (turn : ∀ (i : Nat) (c : σ) m h g tk rest v, items[i]? = some v -> P i c m g -> (∀ q ∈ rest, q.1 ∉ muts) -> (∀ q ∈ newsZ, q ∈ rest) -> Fr hZ env.locals h (mput m x v) -> News hZ env.locals h (Led c ++ rest) ->
   wpAny (model prog w) A (execs body env) (ForPost hZ env.locals s Led P muts Q i rest) E (Sg s h g tk))
  (done : ∀ (c : σ) m h g tk, P items.length c m g -> Fr hZ env.locals h m -> News hZ env.locals h (Led c ++ newsZ) -> Q .next (Sg s h g tk))
  (hE : PassesOwn (model prog w) A env E) :
  wpAny (model prog w) A (pyIter (.ref l)) (fun it sB => codeAny (model prog w) A (.forLoop (.Name x px) it body [] env) (fun r s' => match r with | .ok f => Q f s' | .error e => cameBackBy (model prog w) A env E e s') sB) E s := by
 have hg : s.heap.get? l = some ol := hl.elim (F.keep _ _) fun q => (N _ (zR _ q)).1
 have hlt : l < s.heap.objs.size := Heap.lt_size hg
 have hsz : items.toArray.size = items.length := List.size_toArray
 have hIm : s.heap.objs.size ∉ muts := fun q => by
  obtain ⟨o, ho⟩ := hm _ q
  exact absurd (Heap.lt_size (N _ (zL _ ho)).1) (Nat.lt_irrefl _)
 have hI : ∀ q ∈ newsZ, q.1 ≠ s.heap.objs.size := fun q hq => Nat.ne_of_lt (Heap.lt_size (N _ (zR _ hq)).1)
 have hNp : ∀ o : Obj, News hZ env.locals (s.heap.push o) (Led cZ ++ newsZ) := fun o p hp => ⟨Heap.get?_push_of_some _ (N p hp).1, (N p hp).2⟩
 cases tup with
 | false =>
  simp only [Bool.false_eq_true, if_false] at hc
  refine wpAny_pyIter_list ⟨ol, hg, hc, ep, hd⟩ ?_
  exact for_W (s := { s with heap := s.heap.push { cls := .type "list_iterator", data := .fields #[.ref l, .int 0 0] } }) (Walks.list hh s.heap.objs.size l (Nat.ne_of_lt hlt) items.toArray)
   (fun i h st => by obtain ⟨⟨o, e, hc, _⟩, _⟩ := st; exact ⟨o, e, fun q => q.1 hc⟩) hx hpp Led P cZ muts newsZ (F.push _) (hNp _) hn hIm hI (next_is_new F) (Ne.symm (Nat.ne_of_lt F.ns.lt)) hl
   ⟨⟨_, Heap.get?_push_size _ rfl, rfl, rfl⟩, ⟨ol, Heap.get?_push_of_some _ hg, hc, ep, hd⟩⟩ hp hpl
   (fun i c m h g tk rest v _ hv => turn i c m h g tk rest v (by simpa using hv)) (fun c m h g tk hP => done c m h g tk (by rw [hsz] at hP; exact hP)) hE
 | true =>
  simp only [if_true] at hc
  refine wpAny_pyIter_tuple ⟨ol, hg, hc, ep, hd⟩ ?_
  exact for_W (s := { s with heap := s.heap.push { cls := .type "tuple_iterator", data := .fields #[.ref l, .int 0 0] } }) (Walks.tuple hh s.heap.objs.size l (Nat.ne_of_lt hlt) items.toArray)
   (fun i h st => by obtain ⟨⟨o, e, hc, _⟩, _⟩ := st; exact ⟨o, e, fun q => q.2 hc⟩) hx hpp Led P cZ muts newsZ (F.push _) (hNp _) hn hIm hI (next_is_new F) (Ne.symm (Nat.ne_of_lt F.ns.lt)) hl
   ⟨⟨_, Heap.get?_push_size _ rfl, rfl, rfl⟩, ⟨ol, Heap.get?_push_of_some _ hg, hc, ep, hd⟩⟩ hp hpl
   (fun i c m h g tk rest v _ hv => turn i c m h g tk rest v (by simpa using hv)) (fun c m h g tk hP => done c m h g tk (by rw [hsz] at hP; exact hP)) hE
end
inductive FV where
 | int (n : Int)
 | str (x : Str)
 | tup (ns : List Int)
 | lst (ns : List Int)
 deriving DecidableEq
noncomputable abbrev FD := List (Str × FV)
inductive VIn (T : List (Addr × Obj)) : Value -> FV -> Prop
 | int (n : Int) (t : Tok) : VIn T (.int n t) (.int n)
 | str (x : Str) (t : Tok) : VIn T (.str x t) (.str x)
 | tup {a : Addr} {vs : List Value} {n : Nat} {ns : List Int} : (a, ({ cls := .type "tuple", data := .seq vs.toArray n } : Obj)) ∈ T -> IntsAre vs ns -> VIn T (.ref a) (.tup ns)
 | lst {a : Addr} {vs : List Value} {n : Nat} {ns : List Int} : (a, listOf vs.toArray n) ∈ T -> IntsAre vs ns -> VIn T (.ref a) (.lst ns)
theorem VIn.mono {T T' : List (Addr × Obj)} (hs : ∀ p ∈ T, p ∈ T') {v : Value} {d : FV} (h : VIn T v d) : VIn T' v d := by
 cases h with
 | int => exact .int _ _
 | str => exact .str _ _
 | tup h r => exact .tup (hs _ h) r
 | lst h r => exact .lst (hs _ h) r
inductive Fld (T : List (Addr × Obj)) : List (Str × Value) -> FD -> Prop
 | nil : Fld T [] []
 | cons {k : Str} {v : Value} {d : FV} {kvs : List (Str × Value)} {D : FD} : VIn T v d -> Fld T kvs D -> Fld T ((k, v) :: kvs) ((k, d) :: D)
section
variable {T T' : List (Addr × Obj)} {kvs more : List (Str × Value)} {D M : FD} {k : Str} {v : Value} {d : FV}
theorem Fld.mono (hs : ∀ p ∈ T, p ∈ T') (h : Fld T kvs D) : Fld T' kvs D := by
 induction h with
 | nil => exact .nil
 | cons a _ ih => exact .cons (a.mono hs) ih
theorem Fld.length (h : Fld T kvs D) : kvs.length = D.length := by
 induction h with
 | nil => rfl
 | cons _ _ ih => simp [ih]
theorem Fld.keys (h : Fld T kvs D) : kvs.map (·.1) = D.map (·.1) := by
 induction h with
 | nil => rfl
 | cons _ _ ih => simp [ih]
theorem Fld.append {kvs' : List (Str × Value)} {D' : FD} (h : Fld T kvs D) (h' : Fld T kvs' D') : Fld T (kvs ++ kvs') (D ++ D') := by
 induction h with
 | nil => exact h'
 | cons a _ ih => exact .cons a ih
theorem Fld.one (h : VIn T v d) : Fld T [(k, v)] [(k, d)] := .cons h .nil
noncomputable def dAt (D : FD) (k : Str) : Option FV := (D.find? fun kd => kd.1 = k).map (·.2)
theorem dAt_nil : dAt [] k = none := rfl
theorem dAt_cons (p : Str × FV) : dAt (p :: D) k = if p.1 = k then some p.2 else dAt D k := by
 unfold dAt
 rw [List.find?_cons]
 by_cases h : p.1 = k
 ·simp [h]
 ·simp [h]
theorem valueAt_cons (p : Str × Value) : valueAt (p :: kvs) k = if p.1 = k then some p.2 else valueAt kvs k := by
 unfold valueAt
 rw [List.find?_cons]
 by_cases h : p.1 = k
 ·simp [h]
 ·simp [h]
theorem Fld.at (h : Fld T kvs D) (hd : dAt D k = some d) : ∃ v, valueAt kvs k = some v /\ VIn T v d := by
 induction h with
 | nil => cases hd
 | @cons k' v d' kvs D a _ ih =>
  rw [dAt_cons] at hd
  rw [valueAt_cons]
  by_cases e : k' = k
  ·simp only [e, if_true] at hd ⊢
   exact ⟨_, rfl, (Option.some.inj hd) ▸ a⟩
  ·simp only [e, if_false] at hd ⊢
   exact ih hd
theorem Fld.none (h : Fld T kvs D) (hd : dAt D k = none) : valueAt kvs k = none := by
 induction h with
 | nil => rfl
 | @cons k' v d' kvs D a _ ih =>
  rw [dAt_cons] at hd
  rw [valueAt_cons]
  by_cases e : k' = k
  ·simp only [e, if_true] at hd
   cases hd
  ·simp only [e, if_false] at hd ⊢
   exact ih hd
noncomputable def dPut (D : FD) (k : Str) (d : FV) : FD := if D.any (fun kd => kd.1 = k) then D.map (fun kd => if kd.1 = k then (kd.1, d) else kd) else D ++ [(k, d)]
theorem Fld.any (h : Fld T kvs D) : kvs.any (fun kv => kv.1 = k) = D.any (fun kd => kd.1 = k) := by
 induction h with
 | nil => rfl
 | cons _ _ ih => simp [ih]
theorem Fld.mapPut (h : Fld T kvs D) (hv : VIn T v d) : Fld T (kvs.map (fun kv => if kv.1 = k then (kv.1, v) else kv)) (D.map (fun kd => if kd.1 = k then (kd.1, d) else kd)) := by
 induction h with
 | nil => exact .nil
 | @cons k' v' d' kvs D a _ ih =>
  rw [List.map_cons, List.map_cons]
  by_cases e : k' = k
  ·simp only [e, if_true]; exact .cons hv ih
  ·simp only [e, if_false]; exact .cons a ih
theorem Fld.put (h : Fld T kvs D) (hv : VIn T v d) : Fld T (stored kvs k v) (dPut D k d) := by
 unfold stored dPut
 rw [h.any]
 split
 ·exact h.mapPut hv
 ·exact h.append (.one hv)
theorem dPut_new (h : k ∉ D.map (·.1)) : dPut D k d = D ++ [(k, d)] := by
 unfold dPut
 rw [if_neg]
 intro e
 obtain ⟨p, hp, e⟩ := List.any_eq_true.mp e
 exact h (List.mem_map.mpr ⟨p, hp, of_decide_eq_true e⟩)
theorem dAt_append (D D' : FD) : dAt (D ++ D') k = (dAt D k).or (dAt D' k) := by
 induction D with
 | nil => rfl
 | cons p D ih =>
  rw [List.cons_append, dAt_cons, dAt_cons, ih]
  by_cases e : p.1 = k
  ·simp only [e, if_true]; rfl
  ·simp only [e, if_false]
theorem dAt_none (h : k ∉ D.map (·.1)) : dAt D k = none := by
 induction D with
 | nil => rfl
 | cons p D ih =>
  rw [List.map_cons, zC, not_or] at h
  rw [dAt_cons, if_neg (fun e => h.1 e.symm)]
  exact ih h.2
theorem dAt_put (k' : Str) : dAt (dPut D k d) k' = if k = k' then some d else dAt D k' := by
 unfold dPut
 by_cases ha : D.any (fun kd => kd.1 = k) = true
 ·rw [if_pos ha]
  induction D with
  | nil => simp at ha
  | cons p D ih =>
   rw [List.map_cons, dAt_cons, dAt_cons]
   by_cases e : p.1 = k
   ·simp only [e, if_true]
    by_cases e' : k = k'
    ·simp only [e', if_true]
    ·simp only [e', if_false]
     clear ih ha
     induction D with
     | nil => rfl
     | cons q D ih =>
      rw [List.map_cons, dAt_cons, dAt_cons, ih]
      by_cases e'' : q.1 = k
      ·simp only [e'', if_true, e', if_false]
      ·simp only [e'', if_false]
   ·have ha' : D.any (fun kd => kd.1 = k) = true := by simpa [e] using ha
    simp only [e, if_false]
    rw [ih ha']
    by_cases e' : p.1 = k'
    ·have : ¬ k = k' := fun q => e (q ▸ e')
     simp only [e', if_true, this, if_false]
    ·simp only [e', if_false]
 ·rw [if_neg ha, dAt_append]
  have hn : k ∉ D.map (·.1) := fun e => by
   obtain ⟨p, hp, rfl⟩ := List.mem_map.mp e
   exact ha (List.any_eq_true.mpr ⟨p, hp, by simp⟩)
  by_cases e : k = k'
  ·subst e
   rw [dAt_none hn, if_pos rfl]
   simp [dAt_cons]
  ·rw [if_neg e]
   simp [dAt_cons, e, dAt_nil]
noncomputable def dMerge (D M : FD) : FD := M.foldl (fun acc kd => dPut acc kd.1 kd.2) D
theorem Fld.merge (h : Fld T kvs D) (h' : Fld T more M) : Fld T (merged kvs more) (dMerge D M) := by
 induction h' generalizing kvs D with
 | nil => exact h
 | cons a _ ih => exact ih (h.put a)
noncomputable def dDel (D : FD) (k : Str) : FD := D.filter fun kd => decide (kd.1 ≠ k)
theorem Fld.without (h : Fld T kvs D) : Fld T (without kvs k) (dDel D k) := by
 unfold PySem.without dDel
 induction h with
 | nil => exact .nil
 | @cons k' v' d' kvs D a _ ih =>
  rw [List.filter_cons, List.filter_cons]
  by_cases e : k' = k
  ·simp only [e, ne_eq, not_true, decide_false, Bool.false_eq_true, if_false]; exact ih
  ·simp only [e, ne_eq, not_false_eq_true, decide_true, if_true]; exact .cons a ih
noncomputable def dEq (D D' : FD) : Bool := D.length == D'.length && D.all fun p => decide (dAt D' p.1 = some p.2)
end
section
variable {A : Around} {s : Shared} {T : List (Addr × Obj)}
theorem reads_ints {h : Heap} {vs : List Value} {ns : List Int} (hi : IntsAre vs ns) : ReadsAll h vs (ns.map PyData.int) [] := by
 induction hi with
 | nil => exact .nil
 | cons n t _ ih => exact ReadsAll.cons (as := []) (bs := []) (.int n t) ih
theorem eqvAll_ints : ∀ ns ms : List Int, PyData.eqvAll (ns.map PyData.int) (ms.map PyData.int) = decide (ns = ms) := ked_eqvAll
theorem dec_beq {α : Type} [DecidableEq α] (a b : α) {p : Prop} [Decidable p] (h : p ↔ a = b) : decide p = (a == b) := by
 rw [Bool.eq_iff_iff]; simp [h]
theorem shaped_tup (ns : List Int) : SeqAt.shaped (.tuple (ns.map PyData.int)) = true := by
 unfold SeqAt.shaped
 simp only [PyData.canLay0, PyData.depth, ke_canLayAll0, ke_depthAll]
 rfl
theorem eqAt_V (hT : ∀ p ∈ T, s.heap.get? p.1 = some p.2) (hu : A.in1.units + 64 < cLine) {v y : Value} {d e : FV} (h : VIn T v d) (k : VIn T y e) : SeqAt.EqAt A.in1 s v y (decide (d = e)) := by
 have hu' : A.in1.units < cLine := by omega
 cases h with
 | int n t =>
  cases k with
  | int m u => have := SeqAt.EqAt.int_int (A := A.in1) (s := s) n t m u; rw [show decide (FV.int n = .int m) = (n == m) from dec_beq _ _ (by rw [FV.int.injEq])]; exact this
  | str x u => simpa using SeqAt.EqAt.int_str (A := A.in1) (s := s) n t x u
  | tup hm hi => simpa using SeqAt.EqAt.int_tuple (A := A.in1) (s := s) n t ⟨_, hT _ hm, rfl, _, rfl⟩ hu'
  | lst hm hi => simpa using SeqAt.EqAt.int_list (A := A.in1) (s := s) n t ⟨_, hT _ hm, rfl, _, rfl⟩ hu'
 | str x t =>
  cases k with
  | int m u => simpa using SeqAt.EqAt.str_int (A := A.in1) (s := s) x t m u
  | str y u => have := SeqAt.EqAt.str_str (A := A.in1) (s := s) x t y u; rw [show decide (FV.str x = .str y) = (x == y) from dec_beq _ _ (by rw [FV.str.injEq])]; exact this
  | tup hm hi => simpa using SeqAt.EqAt.str_tuple (A := A.in1) (s := s) x t ⟨_, hT _ hm, rfl, _, rfl⟩ hu'
  | lst hm hi => simpa using SeqAt.EqAt.str_list (A := A.in1) (s := s) x t ⟨_, hT _ hm, rfl, _, rfl⟩ hu'
 | tup hm hi =>
  cases k with
  | int m u => simpa using SeqAt.EqAt.tuple_int (A := A.in1) (s := s) m u ⟨_, hT _ hm, rfl, _, rfl⟩ hu'
  | str y u => simpa using SeqAt.EqAt.tuple_str (A := A.in1) (s := s) y u ⟨_, hT _ hm, rfl, _, rfl⟩ hu'
  | tup hm' hi' =>
   rename_i a vs n ns a' vs' n' ns'
   have := keq_at (A := A) (reads_tuple_at (hT _ hm) rfl rfl (reads_ints hi)) (reads_tuple_at (hT _ hm') rfl rfl (reads_ints hi')) (shaped_tup _) (shaped_tup _) hu
   simpa [FV.tup.injEq, PyData.eqv, eqvAll_ints] using this
  | lst hm' hi' => simpa using SeqAt.EqAt.tuple_list (A := A.in1) (s := s) ⟨_, hT _ hm, rfl, _, rfl⟩ ⟨_, hT _ hm', rfl, _, rfl⟩ hu'
 | lst hm hi =>
  cases k with
  | int m u => simpa using SeqAt.EqAt.list_int (A := A.in1) (s := s) m u ⟨_, hT _ hm, rfl, _, rfl⟩ hu'
  | str y u => simpa using SeqAt.EqAt.list_str (A := A.in1) (s := s) y u ⟨_, hT _ hm, rfl, _, rfl⟩ hu'
  | tup hm' hi' => simpa using SeqAt.EqAt.list_tuple (A := A.in1) (s := s) ⟨_, hT _ hm, rfl, _, rfl⟩ ⟨_, hT _ hm', rfl, _, rfl⟩ hu'
  | lst hm' hi' =>
   have := keq_at (A := A) (reads_list_at (hT _ hm) rfl rfl (reads_ints hi)) (reads_list_at (hT _ hm') rfl rfl (reads_ints hi')) (shaped_ints _) (shaped_ints _) hu
   simpa [FV.lst.injEq, PyData.eqv, eqvAll_ints] using this
theorem hits_of (hT : ∀ p ∈ T, s.heap.get? p.1 = some p.2) (hu : A.in1.units + 64 < cLine) {ka kb : List (Str × Value)} {D D' : FD} (ha : Fld T ka D) (hb : Fld T kb D') :
  KeqHits A.in1 s kb ka (D.all fun p => decide (dAt D' p.1 = some p.2)) := by
 induction ha with
 | nil => exact .nil
 | @cons k v d kvs D a _ ih =>
  rw [List.all_cons]
  cases e : dAt D' k with
  | none => simpa using KeqHits.miss (hb.none e)
  | some d' =>
   obtain ⟨y, hy, iy⟩ := hb.at e
   have := KeqHits.hit hy (eqAt_V hT hu a iy) ih
   have e2 : decide (some d' = some d) = decide (d = d') := by simp [eq_comm]
   simp only [e2]
   exact this
end
theorem filled_all : PySem.Challenge.rw_ae0015_01.prog = PySem.Challenge.rw_ae0015_01.prog ∧ ∀ P, KK P = KK P := by
  k_fill
  exact ⟨rfl, fun _ => rfl⟩
noncomputable abbrev S (s : String) : Str := oS s
noncomputable def kinds : List (Str × Bool × List Str) :=
 [(oS "note_off", true, [oS "note", oS "velocity"]),
  (oS "note_on", true, [oS "note", oS "velocity"]),
  (oS "polytouch", true, [oS "note", oS "value"]),
  (oS "control_change", true, [oS "control", oS "value"]),
  (oS "program_change", true, [oS "program"]),
  (oS "aftertouch", true, [oS "value"]),
  (oS "pitchwheel", true, [oS "pitch"]),
  (oS "sysex", false, [oS "data"]),
  (oS "quarter_frame", false, [oS "frame_type", oS "frame_value"]),
  (oS "songpos", false, [oS "pos"]),
  (oS "song_select", false, [oS "song"]),
  (oS "tune_request", false, []),
  (oS "clock", false, []),
  (oS "start", false, []),
  (oS "continue", false, []),
  (oS "stop", false, []),
  (oS "active_sensing", false, []),
  (oS "reset", false, [])]
noncomputable def kind (k : Nat) : Str × Bool × List Str := (kinds[k]?).getD (oS "", false, [])
noncomputable def kname (k : Nat) : Str := (kind k).1
noncomputable def kchan (k : Nat) : Bool := (kind k).2.1
noncomputable def kkeys (k : Nat) : List Str := (kind k).2.2
noncomputable def vnames (k : Nat) : List Str := (if kchan k then [oS "channel"] else []) ++ kkeys k
noncomputable def anames (k : Nat) : List Str := vnames k ++ [oS "type", oS "time"]
noncomputable def specA (k : Nat) : Addr := if k = 17 then 82 else 30 + 3 * k
theorem lt18 {p : Nat -> Prop} (h : p 0 /\ p 1 /\ p 2 /\ p 3 /\ p 4 /\ p 5 /\ p 6 /\ p 7 /\ p 8 /\ p 9 /\ p 10 /\ p 11 /\ p 12 /\ p 13 /\ p 14 /\ p 15 /\ p 16 /\ p 17) {k : Nat} (hk : k < 18) : p k := by
 obtain ⟨h0, h1, h2, h3, h4, h5, h6, h7, h8, h9, h10, h11, h12, h13, h14, h15, h16, h17⟩ := h
 match k, hk with
 | 0, _ => exact h0 | 1, _ => exact h1 | 2, _ => exact h2 | 3, _ => exact h3 | 4, _ => exact h4 | 5, _ => exact h5 | 6, _ => exact h6 | 7, _ => exact h7 | 8, _ => exact h8
 | 9, _ => exact h9 | 10, _ => exact h10 | 11, _ => exact h11 | 12, _ => exact h12 | 13, _ => exact h13 | 14, _ => exact h14 | 15, _ => exact h15 | 16, _ => exact h16 | 17, _ => exact h17
 | n + 18, h => exact absurd h (by omega)
noncomputable abbrev tupO (l : List Value) : Obj := ⟨.type "tuple", none, .seq l.toArray 0, [].toArray⟩
noncomputable abbrev lstO (l : List Value) : Obj := ⟨.type "list", none, .seq l.toArray 0, [].toArray⟩
noncomputable def RowAt (P : Params) (k : Nat) : Prop := ∃ t n u, (KK P).lookup (444 + 2 * k) = some (tupO [.str (kname k) t, .int n u, .bool (kchan k), .ref (443 + 2 * k)])
theorem row_one {P : Params} {k t u : Nat} {n : Int} (h : (KK P).lookup (444 + 2 * k) = some (tupO [.str (kname k) t, .int n u, .bool (kchan k), .ref (443 + 2 * k)])) : RowAt P k := ⟨t, n, u, h⟩
theorem row_lk (P : Params) {k : Nat} (hk : k < 18) : ∃ t n u, (KK P).lookup (444 + 2 * k) = some (tupO [.str (kname k) t, .int n u, .bool (kchan k), .ref (443 + 2 * k)]) := by
 refine lt18 (p := RowAt P) ⟨?_, ?_, ?_, ?_, ?_, ?_, ?_, ?_, ?_, ?_, ?_, ?_, ?_, ?_, ?_, ?_, ?_, ?_⟩ hk
 all_goals exact row_one (by with_unfolding_all rfl)
noncomputable def SeqAt (P : Params) (a : Addr) (o : List Value -> Obj) (xs : List Str) : Prop := ∃ l, (KK P).lookup a = some (o l) /\ StrsAre l xs
theorem seq_one {P : Params} {a : Addr} {o : List Value -> Obj} {l : List Value} {xs : List Str} (h : (KK P).lookup a = some (o l)) (h' : StrsAre l xs) : SeqAt P a o xs := ⟨l, h, h'⟩
noncomputable def SeqsAt (P : Params) (k : Nat) : Prop := SeqAt P (443 + 2 * k) lstO (kkeys k) /\ SeqAt P (specA k + 1) tupO (vnames k) /\ SeqAt P (specA k + 2) tupO (anames k)
theorem seqs_one {P : Params} {k : Nat} (h : SeqAt P (443 + 2 * k) lstO (kkeys k)) (h1 : SeqAt P (specA k + 1) tupO (vnames k)) (h2 : SeqAt P (specA k + 2) tupO (anames k)) : SeqsAt P k := ⟨h, h1, h2⟩
theorem seqs_lk (P : Params) {k : Nat} (hk : k < 18) : SeqsAt P k := by
 refine lt18 (p := SeqsAt P) ⟨?_, ?_, ?_, ?_, ?_, ?_, ?_, ?_, ?_, ?_, ?_, ?_, ?_, ?_, ?_, ?_, ?_, ?_⟩ hk
 all_goals exact seqs_one (seq_one (by with_unfolding_all rfl) (by repeat (first | exact .nil | refine .cons _ _ ?_))) (seq_one (by with_unfolding_all rfl) (by repeat (first | exact .nil | refine .cons _ _ ?_))) (seq_one (by with_unfolding_all rfl) (by repeat (first | exact .nil | refine .cons _ _ ?_)))
theorem keys_lk (P : Params) {k : Nat} (hk : k < 18) : ∃ l, (KK P).lookup (443 + 2 * k) = some (lstO l) /\ StrsAre l (kkeys k) := (seqs_lk P hk).1
theorem vals_lk (P : Params) {k : Nat} (hk : k < 18) : ∃ l, (KK P).lookup (specA k + 1) = some (tupO l) /\ StrsAre l (vnames k) := (seqs_lk P hk).2.1
theorem attrs_lk (P : Params) {k : Nat} (hk : k < 18) : ∃ l, (KK P).lookup (specA k + 2) = some (tupO l) /\ StrsAre l (anames k) := (seqs_lk P hk).2.2
theorem list_lk (P : Params) : (KK P).lookup 479 = some (lstO ((List.range 18).map fun k => .ref (444 + 2 * k))) := by with_unfolding_all rfl
noncomputable def SpecAt (P : Params) (k : Nat) : Prop := ∃ es n, (KK P).lookup (specA k) = some ⟨.type "dict", none, .dict es n, #[]⟩ /\ KeysLit P es.toList /\ nsIn (KK P) (specA k) (oS "value_names") = some (some (.ref (specA k + 1))) /\
  nsIn (KK P) (specA k) (oS "attribute_names") = some (some (.ref (specA k + 2))) /\ ∃ t, nsIn (KK P) (specA k) (oS "type") = some (some (.str (kname k) t))
theorem spec_one {P : Params} {k t t4 t5 : Nat} {b : Int} {l : Value} (h : (KK P).lookup (specA k) = some ⟨.type "dict", none, .dict (spE P t b (kname k) (specA k + 1) t4 t5 l).toArray 5, #[]⟩) : SpecAt P k :=
 ⟨_, _, h, ⟨⟨_, _, rfl, rfl⟩, ⟨_, _, rfl, rfl⟩, ⟨_, _, rfl, rfl⟩, ⟨_, _, rfl, rfl⟩, ⟨_, _, rfl, rfl⟩, trivial⟩, by rw [nsIn, h]; with_unfolding_all rfl, by rw [nsIn, h]; with_unfolding_all rfl, _, by rw [nsIn, h]; with_unfolding_all rfl⟩
theorem spec_lk (P : Params) {k : Nat} (hk : k < 18) : ∃ es n, (KK P).lookup (specA k) = some ⟨.type "dict", none, .dict es n, #[]⟩ /\ KeysLit P es.toList /\ nsIn (KK P) (specA k) (oS "value_names") = some (some (.ref (specA k + 1))) /\
  nsIn (KK P) (specA k) (oS "attribute_names") = some (some (.ref (specA k + 2))) /\ ∃ t, nsIn (KK P) (specA k) (oS "type") = some (some (.str (kname k) t)) := by
 refine lt18 (p := SpecAt P) ⟨?_, ?_, ?_, ?_, ?_, ?_, ?_, ?_, ?_, ?_, ?_, ?_, ?_, ?_, ?_, ?_, ?_, ?_⟩ hk
 all_goals exact spec_one (by with_unfolding_all rfl)
theorem specs_lk (P : Params) : ∃ es n, (KK P).lookup 29 = some ⟨.type "dict", none, .dict es n, #[]⟩ /\ KeysLit P es.toList /\ ∀ k, k < 18 -> nsIn (KK P) 29 (kname k) = some (some (.ref (specA k))) := by
 refine' ⟨_, _, ?a, ?b, fun k hk => ?c⟩
 case a => with_unfolding_all rfl
 case b => exact ⟨⟨_, _, rfl, rfl⟩, ⟨_, _, rfl, rfl⟩, ⟨_, _, rfl, rfl⟩, ⟨_, _, rfl, rfl⟩, ⟨_, _, rfl, rfl⟩, ⟨_, _, rfl, rfl⟩, ⟨_, _, rfl, rfl⟩, ⟨_, _, rfl, rfl⟩, ⟨_, _, rfl, rfl⟩, ⟨_, _, rfl, rfl⟩, ⟨_, _, rfl, rfl⟩, ⟨_, _, rfl, rfl⟩, ⟨_, _, rfl, rfl⟩, ⟨_, _, rfl, rfl⟩, ⟨_, _, rfl, rfl⟩, ⟨_, _, rfl, rfl⟩, ⟨_, _, rfl, rfl⟩, ⟨_, _, rfl, rfl⟩, trivial⟩
 case c =>
  refine lt18 (p := fun k => nsIn (KK P) 29 (kname k) = some (some (.ref (specA k)))) ⟨?_, ?_, ?_, ?_, ?_, ?_, ?_, ?_, ?_, ?_, ?_, ?_, ?_, ?_, ?_, ?_, ?_, ?_⟩ hk
  all_goals with_unfolding_all rfl
noncomputable abbrev rr : RowW := OpenRow.toRowW rW.row
noncomputable def vw : Program := { pw with main := { pw.main with body := pw.main.body.zipIdx.filterMap fun x => if [1, 10, 22, 31, 32, 36, 41, 42].contains x.2 then none else some x.1 } }
noncomputable def looseL : List Str := ["SPEC_BY_TYPE", "DEFAULT_VALUES", "msg2str", "BaseMessage", "Message", "format_as_string", "_law_kinds"].map oS
noncomputable abbrev hk := kmHook KK KA (fun _ => by kernel_rfl) [227]
noncomputable abbrev bd : List Stmt := behindTheImports pw
noncomputable def env0 : Env := { scope := pw.main.scope, locals := mainNs, globals := mainNs, cells := [], code := .ref 13, frame := some 14 }
noncomputable abbrev cd0 : Code := .body bd env0
noncomputable abbrev ps0 : Pos := ⟨0, 0, 0, 0⟩
noncomputable def tupB (l : List Value) : Obj := ⟨.type "tuple", none, .seq l.toArray 0, #[]⟩
noncomputable def fldB (c : Value) (l : List Value) : Obj := ⟨c, none, .fields l.toArray, #[]⟩
noncomputable def txB (x : String) (t : Nat) : Value := .str (oS x) t
noncomputable def mB (x : String) (t : Nat) : Value := .str (oS ("mido.messages." ++ x)) t
noncomputable def dicB (P : Params) (l : List (String × Nat × Value)) : Array DictEntry := (l.map fun x => (⟨kH P (oS x.1), txB x.1 x.2.1, x.2.2⟩ : DictEntry)).toArray
noncomputable def fnB (st : Stmt) (h : Bool) (qual : String) (b t line fl : Nat) (dV pm : Value) (an : Option Addr) : List Obj := match (stP st).2.2 with
 | some (name, args, scope) =>
  let ls := scope.names.filterMap fun x => match x.2 with | .local => some x.1 | _ => none
  let n := if h then ls.length else 0
  let r := fun k => if h then Value.ref (b + k) else .none
  let e := if h then b + 4 else b + 2
  [tupB [], fldB .none []] ++ (if h then [tupB (ls.mapIdx fun j a => .str a (t + 3 + j)), tupB []] else []) ++
  [⟨.none, none, .func { name := name, qualname := oS qual, params := args, body := .stmts (stP st).1, scope := scope, globals := 0, closure := [], defaults := .none, kwdefaults := .none }, #[]⟩,
   fldB (.type "code") [.str name t, txB qual (t + 1), txB "/claim/cut.py" (t + 2), .int line 0, .int args.args.length 0, .int 0 0, .int 0 0, .int fl 0, .ref b, .bool true, .int 181 0, .ref (b + 1), .none, r 2, r 3, .ref e, .int ((t + 3 + n : Nat) : Int) 0, .int line 0, txB "/claim/cut.py" (t + 4 + n)],
   ⟨.type "function", none, .func (mkFn st (oS qual) dV pm (.ref (e + 1)) an), #[]⟩]
 | none => []
noncomputable def nsB (P : Params) (x : Value) (k : Nat) : Obj := ⟨.type "dict", none, .dict ((e3 P).take k |>.modify 0 fun e => ⟨e.hash, e.key, x⟩).toArray k, #[]⟩
noncomputable def btOf (l : List Obj) : BT := (l.foldl (fun (x : BT × Nat) o => (x.1.ins x.2 o, x.2 + 1)) (.nil, 0)).1
noncomputable def modB : List Obj := [fldB (.type "code") [txB "<module>" 182, txB "<module>" 183, txB "/claim/cut.py" 184, .int 1 0, .int 0 0, .int 0 0, .int 0 0, .int 0 0, .ref 11, .bool false, .int 181 0, .ref 12, .none, .none, .none, .none, .int 185 0, .int 1 0, txB "/claim/cut.py" 186],
 ⟨.type "frame", none, .plain, #[some (.ref 13), some (.ref 3), some (.ref 3), none, some (txB "__main__" 164), none, some (.ref 0)]⟩]
noncomputable def hdB (P : Params) (ns : Obj) (tb : List (Nat × Nat)) : List Obj := [boot_o_0 P, boot_o_1 P, boot_o_2 P, ns, boot_o_4 P, boot_o_5 P, boot_o_6 P, boot_o_7 P, boot_o_8 P, boot_o_9 P, boot_o_10 P, tupB [], fldB .none (tb.flatMap fun x => [.int x.1 0, .int 0 0, .ref x.2])] ++ modB
noncomputable def T0 (P : Params) : List Obj := hdB P (boot_o_3 P) []
noncomputable def segA (P : Params) : List Obj := fnB (topFn 0) true "_wall" 15 187 1 3 .none (txB "__main__" 164) none ++ fnB (topFn 2) true "is_channel_status" 22 196 5 3 .none (mB "specs" 194) none ++ ((KK P).filter fun x => decide (29 <= x.1) && decide (x.1 <= 84)).map (·.2)
noncomputable def segB (P : Params) : List Obj := [o85 P, o86 P] ++
 fnB (topFn 9) true "make_msgdict" 87 603 13 3 .none (mB "specs" 194) none ++
 fnB (topFn 11) true "check_type" 94 616 24 3 .none (mB "checks" 614) none ++
 fnB (topFn 12) true "check_channel" 101 623 27 3 .none (mB "checks" 614) none ++
 fnB (topFn 13) true "check_pos" 108 630 32 3 .none (mB "checks" 614) none ++
 fnB (topFn 14) true "check_pitch" 115 637 37 3 .none (mB "checks" 614) none ++
 fnB (topFn 15) true "check_data" 122 644 42 3 .none (mB "checks" 614) none ++
 fnB (topFn 16) true "check_frame_type" 129 652 45 3 .none (mB "checks" 614) none ++
 fnB (topFn 17) true "check_frame_value" 136 659 50 3 .none (mB "checks" 614) none ++
 fnB (topFn 18) true "check_data_byte" 143 666 55 3 .none (mB "checks" 614) none ++
 fnB (topFn 19) true "check_time" 150 673 60 3 .none (mB "checks" 614) none ++
 fnB (topFn 20) true "check_value" 157 680 63 3 .none (mB "checks" 614) none ++
 fnB (topFn 21) true "check_msgdict" 164 688 84 3 .none (mB "checks" 614) none ++
 fnB (topFn 23) true "_encode_pitchwheel" 171 700 93 3 .none (mB "encode" 698) none ++
 fnB (topFn 24) true "_encode_sysex" 178 708 96 3 .none (mB "encode" 698) none ++
 fnB (topFn 25) true "_encode_quarter_frame" 185 715 98 3 .none (mB "encode" 698) none ++
 fnB (topFn 26) true "_encode_songpos" 192 722 100 3 .none (mB "encode" 698) none ++
 fnB (topFn 27) true "_encode_note_off" 199 730 103 3 .none (mB "encode" 698) none ++
 fnB (topFn 28) true "_encode_note_on" 206 737 105 3 .none (mB "encode" 698) none ++
 fnB (topFn 29) true "_encode_control_change" 213 744 107 3 .none (mB "encode" 698) none
noncomputable def segD (P : Params) : List Obj := fnB (topFn 30) false "encode_message" 220 751 109 3 .none (mB "encode" 698) none ++
 [o225 P] ++
 fnB (topFn 32) true "msg2str" 226 759 133 3 (.ref 225) (mB "strings" 757) none ++
 fnB (topFn 33) true "_parse_time" 233 772 145 3 .none (mB "strings" 757) none ++
 fnB (topFn 34) false "_parse_data" 240 779 151 3 .none (mB "strings" 757) none ++
 fnB (topFn 35) true "str2msg" 245 785 158 3 .none (mB "strings" 757) none ++
 [tupB [], fldB (.type "builtin_function_or_method") [.builtin "type.__prepare__", .type "type"], ⟨.type "dict", none, .dict (dicB P [("__module__", 808, mB "messages" 799), ("__qualname__", 810, txB "BaseMessage" 809), ("__firstlineno__", 812, .int 174 811), ("is_meta", 813, .bool false), ("type", 821, .ref 266), ("time", 829, .ref 274), ("copy", 836, .ref 281), ("bytes", 843, .ref 288), ("bin", 850, .ref 295), ("dict", 858, .ref 302), ("from_dict", 878, .ref 311), ("is_realtime", 886, .ref 320), ("is_cc", 894, .ref 328), ("__eq__", 902, .ref 335), ("__static_attributes__", 903, .ref 336)]) 15, #[]⟩, tupB [], fldB .none [.int 178 0, .int 4 0, .ref 264, .int 182 0, .int 4 0, .ref 272, .int 185 0, .int 4 0, .ref 280, .int 188 0, .int 4 0, .ref 287, .int 191 0, .int 4 0, .ref 294, .int 194 0, .int 4 0, .ref 301, .int 201 0, .int 4 0, .ref 308, .int 205 0, .int 4 0, .ref 318, .int 208 0, .int 4 0, .ref 327, .int 211 0, .int 4 0, .ref 334], fldB (.type "code") [txB "BaseMessage" 803, txB "BaseMessage" 804, txB "/claim/cut.py" 805, .int 174 0, .int 0 0, .int 0 0, .int 0 0, .int 0 0, .ref 255, .bool false, .int 181 0, .ref 256, .none, .none, .none, .none, .int 806 0, .int 174 0, txB "/claim/cut.py" 807], ⟨.type "frame", none, .plain, #[(some (.ref 257)), (some (.ref 3)), (some (.ref 254)), none, (some (mB "messages" 799)), none, (some (.ref 0))]⟩] ++
 fnB (clsFn 37 1) true "BaseMessage.type" 259 814 177 3 .none (mB "messages" 799) none ++
 [o266 P] ++
 fnB (clsFn 37 2) true "BaseMessage.time" 267 822 181 3 .none (mB "messages" 799) none ++
 [o274 P] ++
 fnB (clsFn 37 3) true "BaseMessage.copy" 275 830 185 3 .none (mB "messages" 799) none ++
 fnB (clsFn 37 4) true "BaseMessage.bytes" 282 837 188 3 .none (mB "messages" 799) none ++
 fnB (clsFn 37 5) true "BaseMessage.bin" 289 844 191 3 .none (mB "messages" 799) none ++
 fnB (clsFn 37 6) true "BaseMessage.dict" 296 851 194 3 .none (mB "messages" 799) none ++
 fnB (clsFn 37 7) true "BaseMessage.from_dict" 303 859 200 3 .none (mB "messages" 799) (some 312) ++
 [⟨.type "dict", none, .dict (dicB P [("__module__", 867, mB "messages" 799), ("__name__", 870, txB "from_dict" 869), ("__qualname__", 873, txB "BaseMessage.from_dict" 872), ("__doc__", 875, .none), ("__annotations__", 877, .ref 312)]) 5, #[]⟩, o311 P, ⟨.type "dict", none, .dict (dicB P []) 0, #[]⟩] ++
 fnB (clsFn 37 8) true "BaseMessage.is_realtime" 313 879 204 3 .none (mB "messages" 799) none ++
 [o320 P, tupB [.none]] ++
 fnB (clsFn 37 9) true "BaseMessage.is_cc" 322 887 208 3 (.ref 321) (mB "messages" 799) none ++
 fnB (clsFn 37 10) true "BaseMessage.__eq__" 329 895 211 3 .none (mB "messages" 799) none ++
 [tupB [], o337 P, o338 P, fldB (.type "getset_descriptor") [txB "__dict__" 904, .ref 338, .builtin "function.__dict__", .builtin "function.__dict__#set"], fldB (.type "getset_descriptor") [txB "__weakref__" 906, .ref 338, .builtin "ExceptionGroup.__weakref__", .none], fldB (.type "super") [.ref 338, .ref 338, .ref 338], fldB (.type "builtin_function_or_method") [.builtin "object.__init_subclass__", .ref 338], tupB [.ref 338], fldB (.type "builtin_function_or_method") [.builtin "type.__prepare__", .type "type"], ⟨.type "dict", none, .dict (dicB P [("__module__", 919, mB "messages" 799), ("__qualname__", 921, txB "Message" 920), ("__firstlineno__", 923, .int 215 922), ("__init__", 934, .ref 357), ("data", 942, .ref 365), ("copy", 953, .ref 373), ("from_bytes", 975, .ref 383), ("from_str", 995, .ref 393), ("__len__", 1002, .ref 401), ("_setattr", 1011, .ref 408), ("bytes", 1018, .ref 415), ("__static_attributes__", 1020, .ref 416)]) 12, #[]⟩, tupB [], fldB .none [.int 217 0, .int 4 0, .ref 356, .int 227 0, .int 4 0, .ref 363, .int 230 0, .int 4 0, .ref 372, .int 246 0, .int 4 0, .ref 380, .int 250 0, .int 4 0, .ref 390, .int 253 0, .int 4 0, .ref 400, .int 259 0, .int 4 0, .ref 407, .int 262 0, .int 4 0, .ref 414], fldB (.type "code") [txB "Message" 914, txB "Message" 915, txB "/claim/cut.py" 916, .int 215 0, .int 0 0, .int 0 0, .int 0 0, .int 0 0, .ref 346, .bool false, .int 181 0, .ref 347, .none, .none, .none, .none, .int 917 0, .int 215 0, txB "/claim/cut.py" 918], ⟨.type "frame", none, .plain, #[(some (.ref 348)), (some (.ref 3)), (some (.ref 345)), none, (some (mB "messages" 799)), none, (some (.ref 0))]⟩, o350 P] ++
 fnB (clsFn 38 0) true "Message.__init__" 351 924 217 11 (.ref 350) (mB "messages" 799) none ++
 fnB (clsFn 38 1) true "Message.data" 358 935 226 3 .none (mB "messages" 799) none ++
 [o365 P, tupB [.bool false]] ++
 fnB (clsFn 38 2) true "Message.copy" 367 943 230 11 (.ref 366) (mB "messages" 799) none ++
 [tupB [.int 0 954]] ++
 fnB (clsFn 38 3) true "Message.from_bytes" 375 955 245 3 (.ref 374) (mB "messages" 799) (some 384) ++
 [⟨.type "dict", none, .dict (dicB P [("__module__", 964, mB "messages" 799), ("__name__", 967, txB "from_bytes" 966), ("__qualname__", 970, txB "Message.from_bytes" 969), ("__doc__", 972, .none), ("__annotations__", 974, .ref 384)]) 5, #[]⟩, o383 P, ⟨.type "dict", none, .dict (dicB P []) 0, #[]⟩] ++
 fnB (clsFn 38 4) true "Message.from_str" 385 976 249 3 .none (mB "messages" 799) (some 394) ++
 [⟨.type "dict", none, .dict (dicB P [("__module__", 984, mB "messages" 799), ("__name__", 987, txB "from_str" 986), ("__qualname__", 990, txB "Message.from_str" 989), ("__doc__", 992, .none), ("__annotations__", 994, .ref 394)]) 5, #[]⟩, o393 P, ⟨.type "dict", none, .dict (dicB P []) 0, #[]⟩] ++
 fnB (clsFn 38 5) true "Message.__len__" 395 996 253 3 .none (mB "messages" 799) none ++
 fnB (clsFn 38 6) true "Message._setattr" 402 1003 259 3 .none (mB "messages" 799) none ++
 fnB (clsFn 38 7) true "Message.bytes" 409 1012 262 3 .none (mB "messages" 799) none ++
 [tupB [txB "fields" 1019], o417 P, o418 P, fldB (.type "super") [.ref 418, .ref 418, .ref 418], fldB (.type "builtin_function_or_method") [.builtin "object.__init_subclass__", .ref 418]]
noncomputable def T1 (P : Params) : List Obj := hdB P (nsB P (mB "specs" 194) 16) [(1, 20), (5, 27)] ++ segA P
noncomputable def T2 (P : Params) : List Obj := hdB P (nsB P (mB "encode" 698) 36) [(1, 20), (5, 27), (13, 92), (24, 99), (27, 106), (32, 113), (37, 120), (42, 127), (45, 134), (50, 141), (55, 148), (60, 155), (63, 162), (84, 169), (93, 176), (96, 183), (98, 190), (100, 197), (103, 204), (105, 211), (107, 218)] ++ segA P ++ segB P
noncomputable def T3 (P : Params) : List Obj := hdB P (nsB P (mB "messages" 799) 43) [(1, 20), (5, 27), (13, 92), (24, 99), (27, 106), (32, 113), (37, 120), (42, 127), (45, 134), (50, 141), (55, 148), (60, 155), (63, 162), (84, 169), (93, 176), (96, 183), (98, 190), (100, 197), (103, 204), (105, 211), (107, 218), (109, 223), (133, 231), (145, 238), (151, 243), (158, 250), (174, 257), (215, 348)] ++ segA P ++ segB P ++ segD P
noncomputable def st0 (l : List Obj) (n k : Nat) (os : OsState) : SharedT := ⟨btOf l, n, {}, #[], {}, k, os⟩
theorem pre_ok : ∀ w : World, (fun os => topGo treeTable pw w 11 (some (.ref 6)) 12 ⟨boot_heap w.params, #[], boot_drawn, boot_toks, os⟩ (topStub pw)) = fun os => some (⟨⟨(T0 w.params).toArray, {}⟩, #[], {}, 187, os⟩, ⟨denote treeTable cd0, cd0, ps0, [topFrame ps0]⟩) := fun w => by kernel_rfl
theorem block_ok : ∀ w : World, (fun os => segRun treeTable pw w 11 (some (.ref 6)) 1 1 ⟨⟨(T0 w.params).toArray, {}⟩, #[], {}, 187, os⟩ (blockOf bd env0 cd0 ps0 [topFrame ps0])) = fun os => some (.next, (st0 (T0 w.params) 15 187 os).abs, cd0, ps0) := fun w => by kernel_rfl
noncomputable abbrev goB (w : World) (n : Nat) (s : SharedT) (l : List Stmt) (p : Pos) : Option (Flow × SharedT × Code × Pos) := segRunT treeTable pw w 11 (some (.ref 6)) 1 n s (piecesOf l env0 cd0 p [topFrame ps0])
noncomputable def oneP (w : World) : Prop := (fun os => goB w 1900 (st0 (T0 w.params) 15 187 os) (bd.take 8) ps0) = fun os => some (.next, st0 (T1 w.params) 85 564 os, cd0, ⟨11, 0, 11, 12⟩)
noncomputable def twoP (w : World) : Prop := (fun os => goB w 1000 (st0 (T1 w.params) 85 564 os) ((bd.drop 8).take 22) ⟨11, 0, 11, 12⟩) = fun os => some (.next, st0 (T2 w.params) 220 751 os, cd0, ⟨107, 0, 108, 63⟩)
theorem one_f (w : World) : oneP (w.withFollow "special-get-raises" false) := by unfold oneP; kernel_rfl
theorem one_t (w : World) : oneP (w.withFollow "special-get-raises" true) := by unfold oneP; kernel_rfl
theorem two_f (w : World) : twoP (w.withFollow "special-get-raises" false) := by unfold twoP; kernel_rfl
theorem two_t (w : World) : twoP (w.withFollow "special-get-raises" true) := by unfold twoP; kernel_rfl
theorem three : ∀ w : World, (fun os => goB w 2000 (st0 (T2 w.params) 220 751 os) ((bd.drop 30).take 9) ⟨107, 0, 108, 63⟩) = fun os => some (.next, st0 (T3 w.params) 421 1024 os, cd0, ⟨215, 0, 263, 42⟩) := fun w => by kernel_rfl
noncomputable def looks (P : Params) (s : Shared) := ((staticsOk (importedModules pw.main.body) (boot_heap P) s.heap && namesBound pw s.heap && gensDone s && laidKept (boot_heap P) s.heap),
 openSeen vw looseL (importedModules pw.main.body) (fun s => xlAt vw [] s && recOk (RowW.records rr) s) true s, Hook.obs hk s)
noncomputable def seenG {α : Type} (f : Shared -> α) : Option (Flow × SharedT × Code × Pos) -> Option (Code × Pos × α)
 | some (.next, s, c, p) => some (c, p, f s.abs)
 | _ => none
theorem four : ∀ w : World, (fun os => seenG (looks w.params) (goB w 900 (st0 (T3 w.params) 421 1024 os) (bd.drop 39) ⟨215, 0, 263, 42⟩)) = fun os => some (cd0, ⟨348, 0, 418, 18⟩, (true, openGood vw looseL, Hook.val hk w)) := fun w => by kernel_rfl
theorem seenG_some {α : Type} {f : Shared -> α} {r : Option (Flow × SharedT × Code × Pos)} {c : Code} {p : Pos} {x : α} (h : seenG f r = some (c, p, x)) : ∃ s, r = some (.next, s, c, p) /\ f s.abs = x := by
 rcases r with _ | ⟨fl, s, c', p'⟩
 ·cases h
 ·cases fl with
  | next =>
   have h := Option.some.inj (show some (c', p', f s.abs) = some (c, p, x) from h)
   have h1 : c' = c := congrArg (·.1) h
   have h2 : p' = p := congrArg (·.2.1) h
   exact ⟨s, by rw [h1, h2], congrArg (·.2.2) h⟩
  | _ => cases h
theorem bd_parts : bd.take 8 ++ ((bd.drop 8).take 22 ++ ((bd.drop 30).take 9 ++ (bd.drop 39 ++ []))) = bd := by kernel_rfl
theorem fin_ok (w : World) (s : Shared) : topRun treeTable pw w 11 (some (.ref 6)) 2 s ⟨doneF .next, cd0, ⟨348, 0, 418, 18⟩, [topFrame ps0]⟩ = some s := by kernel_rfl
theorem size_ok (w : World) : ((boot_heap w.params).isNs mainGlobals && (#[] : Array GenState).size == 0, (boot_heap w.params).objs.size, (boot_heap w.params).nsMap mainGlobals "__annotations__") = (true, 11, some (.ref 6)) := by kernel_rfl
theorem left_all : LeftO pw vw looseL (fun s => xlAt vw [] s && recOk (RowW.records rr) s) (Hook.obs hk) (Hook.val hk) 9946 := fun w => by
 obtain ⟨⟨h, gs, d, k, os⟩, e, e'⟩ := Option.map_eq_some_iff.mp (boot_open (p := pw) (N := 9946) rfl rfl (fun s => rfl) w)
 obtain ⟨rfl, rfl, rfl, rfl⟩ : h = boot_heap w.params /\ gs = Array.mk [] /\ d = boot_drawn /\ k = boot_toks := by simpa using e'
 obtain ⟨z1, z2, z3⟩ : _ /\ _ /\ _ := by simpa only [Prod.mk.injEq] using size_ok w
 obtain ⟨sA, h4, hl⟩ := seenG_some (congrFun (four w) os)
 have k := piece_app (congrArg (fun x => x) (segRun_of (congrFun (byRow2 "special-get-raises" one_f one_t w) os))) (piece_app (segRun_of (congrFun (byRow2 "special-get-raises" two_f two_t w) os)) (piece_app (segRun_of (congrFun (three w) os)) (piece_app (segRun_of h4) (piece_nil (fin_ok w sA.abs)))))
 rw [bd_parts] at k
 have r := topRun_mono 4131 _ _ _ _ (go_top (congrFun (pre_ok w) os) (piece_block (congrFun (block_ok w) os) k))
 obtain ⟨l1, l2, l3⟩ : _ /\ _ /\ _ := by simpa only [looks, Prod.mk.injEq] using hl
 have t : topFrom treeTable pw w 9946 ⟨boot_heap w.params, Array.mk [], boot_drawn, boot_toks, os⟩ = some sA.abs := by
  unfold topFrom
  dsimp only
  rw [z1, z2, z3]
  refine Eq.trans (congrArg (fun x => Option.bind x _) r) ?_
  dsimp only [Option.bind]
  rw [l1]
 unfold openEnds
 rw [e]
 show (topFrom treeTable pw w 9946 _).map _ = _
 rw [t]
 exact congrArg some (Prod.ext l2 l3)
section
variable {prog : Program} {w : World} {A : Around} {E : Value -> Shared -> Prop} {s : Shared} {hZ : Heap} {L d : Addr} {m : Str -> Option Value} {news T : List (Addr × Obj)} {g : Obj -> List (Addr × Obj)} {o : Obj} {D : FD} {k : Str} {t : Tok} {v : Value} {x : FV}
noncomputable def DictIs (prog : Program) (w : World) (T : List (Addr × Obj)) (d : Addr) (o : Obj) (D : FD) : Prop :=
 (d == sysModules) = false /\ ∃ kvs, o.IsDictOf (strKind prog w) kvs /\ Fld T kvs D
theorem DictIs.mono {T' : List (Addr × Obj)} (hs : ∀ p ∈ T, p ∈ T') (h : DictIs prog w T d o D) : DictIs prog w T' d o D := let ⟨a, kvs, b, c⟩ := h; ⟨a, kvs, b, c.mono hs⟩
theorem DictIs.plain (h : DictIs prog w T d o D) : plainO o := by
 obtain ⟨_, _, ⟨es, ep, hx, _⟩, _⟩ := h
 exact ⟨by rw [hx.1]; decide, by rw [hx.1]; decide⟩
theorem d_new {env : Env} {pos : Pos} {Q : Value -> Shared -> Prop} (F : Fr hZ L s.heap m) (N : News hZ L s.heap news) (hbig : hZ.NoLimit)
  (k : ∀ d h' o, Fr hZ L h' m -> News hZ L h' ((d, o) :: news) -> (∀ p ∈ news, p.1 < d) -> (∀ T, DictIs prog w T d o []) -> Q (.ref d) { s with heap := h' }) : wpAny (model prog w) A (eval (.Dict [] [] pos) env) Q E s :=
 newDict_K F N hbig fun d h' o F' N' l lo a _ _ _ => k d h' o F' N' l fun _ => ⟨lo, [], a, .nil⟩
theorem d_set {Q : Unit -> Shared -> Prop} (F : Fr hZ L s.heap m) (N : News hZ L s.heap news) (U : UpdF d o news g) (hd : DictIs prog w T d o D) (hv : VIn T v x) (hsz : D.length <= 99)
  (h : ∀ h' o', Fr hZ L h' m -> News hZ L h' (g o') -> DictIs prog w T d o' (dPut D k x) -> Q () (St s h' (s.toks + 1))) : wpAny (model prog w) A (setItem (.ref d) (.str k t) v) Q E s := by
 obtain ⟨lo, kvs, hd, hf⟩ := hd
 exact kda_set F N U hd (strKind_is _ _ _ _) (by rw [hf.length, sizeLine_eq]; omega) fun h' o' F' N' hd' => h h' o' F' N' ⟨lo, _, hd', hf.put hv⟩
theorem d_set_tup {b : Addr} {vs : List Value} {n : Nat} {ns : List Int} {Q : Unit -> Shared -> Prop} (F : Fr hZ L s.heap m) (N : News hZ L s.heap news) (U : UpdF d o news g) (hd : DictIs prog w T d o D) (hi : IntsAre vs ns) (hsz : D.length <= 99)
  (h : ∀ h' o', Fr hZ L h' m -> News hZ L h' (g o') -> DictIs prog w ((b, { cls := .type "tuple", data := .seq vs.toArray n }) :: T) d o' (dPut D k (.tup ns)) -> Q () (St s h' (s.toks + 1))) : wpAny (model prog w) A (setItem (.ref d) (.str k t) (.ref b)) Q E s :=
 d_set F N U (hd.mono fun _ => .tail _) (.tup (.head _) hi) hsz h
theorem d_item {value slice : Expr} {Q : Value -> Shared -> Prop} (N : News hZ L s.heap news) (hp : (d, o) ∈ news) (hd : DictIs prog w T d o D) (hl : dAt D k = some x) (h : ∀ v, VIn T v x -> Q v (Tk s (s.toks + 1)))
  (hs : autoParam (subscripted slice false (.ref d) (.str k t) = operate [.ref d, .str k t] (getItem (.ref d) (.str k t))) tA4) (hg : autoParam (∀ r, letTemporaryGo value (.ref d) r = pure ()) tA4) :
  wpAny (model prog w) A (subscriptTail value slice (.ref d) (.str k t)) Q E s := by
 obtain ⟨lo, kvs, hd, hf⟩ := hd
 obtain ⟨v, hv, hi⟩ := hf.at hl
 exact kda_item N hp hd (strKind_is _ _ _ _) hv (h v hi) hs hg
theorem d_of {Q : Value -> Shared -> Prop} (F : Fr hZ L s.heap m) (N : News hZ L s.heap news) (hbig : hZ.NoLimit) (hp : (d, o) ∈ news) (hd : DictIs prog w T d o D) (hsz : D.length <= 99)
  (k : ∀ d' h' o', Fr hZ L h' m -> News hZ L h' ((d', o') :: news) -> (∀ p ∈ news, p.1 < d') -> DictIs prog w T d' o' D -> Q (.ref d') { s with heap := h' }) :
  wpAny (model prog w) A (call (.type "dict") [.ref d]) Q E s := by
 obtain ⟨lo, kvs, hd, hf⟩ := hd
 refine kt_call_dict lo (Heap.dictOf_iff.mpr ⟨o, (N _ hp).1, hd⟩) (by rw [hf.length, sizeLine_eq]; omega) fun h' hm hs => ?_
 obtain ⟨o', ho', hd'⟩ := Heap.dictOf_iff.mp hm
 have N1 := News.push F N { cls := .type "dict", data := .dict #[] }
 exact k _ h' o' ((F.push _).change hs (N1 _ (.head _)).2.1 (N1.fresh (.head _))) (N1.setHead N.apart hs ho') (fun p hp => Heap.lt_size (N p hp).1) ⟨F.notModules (modules_low hbig), kvs, hd', hf⟩
theorem d_eq {a b : Addr} {oa ob : Obj} {Da Db : FD} {Q : Value -> Shared -> Prop} (N : News hZ L s.heap news) (hT : ∀ p ∈ T, s.heap.get? p.1 = some p.2) (pa : (a, oa) ∈ news) (pb : (b, ob) ∈ news) (da : DictIs prog w T a oa Da) (db : DictIs prog w T b ob Db)
  (hu : A.units + 100 < cLine) (h : Q (.bool (dEq Da Db)) s) : wpAny (model prog w) A (compareOp .Eq (.ref a) (.ref b)) Q E s := by
 obtain ⟨la, ka, da, fa⟩ := da
 obtain ⟨lb, kb, db, fb⟩ := db
 refine keq_eq la lb (Heap.dictOf_iff.mpr ⟨oa, (N _ pa).1, da⟩) (Heap.dictOf_iff.mpr ⟨ob, (N _ pb).1, db⟩) (by omega) (fun _ => hits_of hT (by show A.units + 1 + 64 < cLine; omega) fa fb) ?_
 rw [fa.length, fb.length]; exact h
theorem d_ne {a b : Addr} {oa ob : Obj} {Da Db : FD} {Q : Value -> Shared -> Prop} (N : News hZ L s.heap news) (hT : ∀ p ∈ T, s.heap.get? p.1 = some p.2) (pa : (a, oa) ∈ news) (pb : (b, ob) ∈ news) (da : DictIs prog w T a oa Da) (db : DictIs prog w T b ob Db)
  (hu : A.units + 100 < cLine) (h : Q (.bool (!dEq Da Db)) s) : wpAny (model prog w) A (compareOp .NotEq (.ref a) (.ref b)) Q E s := by
 obtain ⟨la, ka, da, fa⟩ := da
 obtain ⟨lb, kb, db, fb⟩ := db
 refine keq_ne la lb (Heap.dictOf_iff.mpr ⟨oa, (N _ pa).1, da⟩) (Heap.dictOf_iff.mpr ⟨ob, (N _ pb).1, db⟩) (by omega) (fun _ => hits_of hT (by show A.units + 1 + 64 < cLine; omega) fa fb) ?_
 rw [fa.length, fb.length]; exact h
end
structure At (w : World) (A : Around) (env : Env) (hZ : Heap) (L : Addr) (D U : Nat) : Prop where
 ex : ∃ p loose mean mg mb A₀ base outer, Below A₀ base outer hZ /\ Top p loose mean mg mb hZ /\ A.frames = some (env :: outer)
 hh : A.handled = none
 fr : env.frame = some L
 lo : env.locals = L
 kd : env.scope.kind = .function
 K : (KK w.params).In hZ
 dp : A.depth + D < recursionLimit
 un : A.units + U < cLine
 bx : ∃ base outer, A.frames = some (env :: outer) /\ base.StaysIn hZ /\ hZ.FunFrames base outer /\ (KK w.params).In base /\ (∃ p loose mean mg mb, Top p loose mean mg mb base) /\ 1 <= A.depth /\ 3 <= A.units
theorem At.exb {w : World} {A : Around} {env : Env} {hZ : Heap} {L : Addr} {D U : Nat} (a : At w A env hZ L D U) : ∃ p loose mean mg mb A₀ base outer, Below A₀ base outer hZ /\ Top p loose mean mg mb hZ /\ A.frames = some (env :: outer) /\
  ∀ (env' : Env) (g : Heap), Below A base (env :: outer) g -> ∃ base' outer', (A.deeper env').frames = some (env' :: outer') /\ base'.StaysIn g /\ g.FunFrames base' outer' /\ (KK w.params).In base' /\ (∃ p loose mean mg mb, Top p loose mean mg mb base') /\ 1 <= (A.deeper env').depth /\ 3 <= (A.deeper env').units := by
 obtain ⟨p, loose, mean, mg, mb, _, _, _, _, T, _⟩ := a.ex
 obtain ⟨base, outer, hA, hst, hfr, hK, hT, h1, h3⟩ := a.bx
 exact ⟨p, loose, mean, mg, mb, { A with frames := some outer }, base, outer, ⟨rfl, hst, hfr⟩, T, hA, fun env' g B => ⟨base, env :: outer, by show (A.frames.map _) = _; rw [hA]; rfl, B.stays, B.frames, hK, hT, Nat.le_add_left _ _, Nat.le_add_left _ _⟩⟩
theorem At.less {w : World} {A : Around} {env : Env} {hZ : Heap} {L : Addr} {D U D' U' : Nat} (a : At w A env hZ L D U) (hd : D' <= D) (hu : U' <= U) : At w A env hZ L D' U' :=
 { a with dp := Nat.lt_of_le_of_lt (Nat.add_le_add_left hd _) a.dp, un := Nat.lt_of_le_of_lt (Nat.add_le_add_left hu _) a.un }
noncomputable abbrev IsI (n : Int) (v : Value) : Prop := ∃ t, v = .int n t
noncomputable abbrev IsS (x : Str) (v : Value) : Prop := ∃ t, v = .str x t
noncomputable def Ev (M : Model) (A : Around) (env : Env) (h : Heap) (e : Expr) (R : Value -> Prop) : Prop :=
 ∀ (s : Shared) (Q E : Value -> Shared -> Prop), s.heap = h -> (∀ v tk, R v -> Q v (Tk s tk)) -> wpAny M A (eval e env) Q E s
noncomputable def EvT (M : Model) (A : Around) (env : Env) (h : Heap) (e : Expr) (b : Bool) : Prop :=
 ∀ (s : Shared) (Q : Bool -> Shared -> Prop) (E : Value -> Shared -> Prop), s.heap = h -> (∀ tk, Q b (Tk s tk)) -> wpAny M A (isTrue e env (eval e env)) Q E s
section
variable {prog : Program} {w : World} {A : Around} {env : Env} {h hZ : Heap} {L : Addr} {m : Str -> Option Value} {news : List (Addr × Obj)} {e eAZ eB : Expr} {R RA RB : Value -> Prop} {v : Value} {x y : Str} {a b : Int} {pos : Pos} {k : Nat}
end
section
variable {prog : Program} {w : World} {A : Around} {env : Env} {h hZ : Heap} {L : Addr} {m : Str -> Option Value} {news : List (Addr × Obj)} {e eAZ eB : Expr} {R RA RB R' : Value -> Prop} {v : Value} {x y : Str} {a b : Int} {pos : Pos} {k : Nat}
theorem Ev.mono {M : Model} (h1 : Ev M A env h e R) (hr : ∀ v, R v -> R' v) : Ev M A env h e R' := fun s Q E hs hq => h1 s Q E hs fun v tk r => hq v tk (hr v r)
theorem Ev.nm {M : Model} (F : Fr hZ env.locals h m) (hm : m x = some v) (hk : autoParam (env.scope.kind = .function) tA0) (hx : autoParam (env.kindOf x = some .local) tA0) (hd : autoParam ((x == ("__debug__" : Str)) = false) tA1) : Ev M A env h (.Name x pos) (· = v) := by
 rintro s Q E rfl hq
 exact wpAny_Name (wpAny_loadName_local hk hx F.ns hm (hq v s.toks rfl)) hd
theorem Ev.nmNs {M : Model} (F : h.Ns env.locals m) (hm : m x = some v) (hk : autoParam (env.scope.kind = .function) tA0) (hx : autoParam (env.kindOf x = some .local) tA0) (hd : autoParam ((x == ("__debug__" : Str)) = false) tA1) : Ev M A env h (.Name x pos) (· = v) := by
 rintro s Q E rfl hq
 exact wpAny_Name (wpAny_loadName_local hk hx F hm (hq v s.toks rfl)) hd
theorem Ev.nmI {M : Model} {n : Int} {t : Tok} (F : Fr hZ env.locals h m) (hm : m x = some (.int n t)) (hk : autoParam (env.scope.kind = .function) tA0) (hx : autoParam (env.kindOf x = some .local) tA0) (hd : autoParam ((x == ("__debug__" : Str)) = false) tA1) : Ev M A env h (.Name x pos) (IsI n) := (Ev.nm F hm hk hx hd).mono fun _ e => ⟨t, e⟩
theorem Ev.nmS {M : Model} {y : Str} {t : Tok} (F : Fr hZ env.locals h m) (hm : m x = some (.str y t)) (hk : autoParam (env.scope.kind = .function) tA0) (hx : autoParam (env.kindOf x = some .local) tA0) (hd : autoParam ((x == ("__debug__" : Str)) = false) tA1) : Ev M A env h (.Name x pos) (IsS y) := (Ev.nm F hm hk hx hd).mono fun _ e => ⟨t, e⟩
theorem Ev.int {M : Model} : Ev M A env h (.Constant (.int a) k pos) (IsI a) := fun _ _ _ _ hq => wpAny_Constant_int (hq _ _ ⟨_, rfl⟩)
theorem Ev.str {M : Model} : Ev M A env h (.Constant (.str x) k pos) (IsS x) := fun _ _ _ _ hq => Calls.Constant_str (hq _ _ ⟨_, rfl⟩)
theorem Ev.none {M : Model} : Ev M A env h (.Constant .none k pos) (· = .none) := fun _ _ _ _ hq => wpAny_Constant_none (hq _ _ rfl)
theorem Ev.bool {M : Model} {c : Bool} : Ev M A env h (.Constant (.bool c) k pos) (· = .bool c) := fun _ _ _ _ hq => wpAny_Constant_bool (hq _ _ rfl)
theorem Ev.bin {M : Model} {op : Operator} (h1 : Ev M A env h eAZ RA) (h2 : Ev M A env h eB RB)
  (hop : ∀ (s : Shared) (Q E : Value -> Shared -> Prop) u v, s.heap = h -> RA u -> RB v -> (∀ z tk, R z -> Q z (Tk s tk)) -> wpAny M A (binaryOp op u v) Q E s) : Ev M A env h (.BinOp eAZ op eB pos) R := by
 intro s Q E hs hq
 refine wpAny_BinOp (h1 s _ E hs fun u tk hu => h2 _ _ E hs fun v tk' hv => hop _ Q E u v hs hu hv fun z tk hz => hq z tk hz)
theorem Ev.add (h1 : Ev (model prog w) A env h eAZ (IsI a)) (h2 : Ev (model prog w) A env h eB (IsI b)) : Ev (model prog w) A env h (.BinOp eAZ .Add eB pos) (IsI (a + b)) :=
 h1.bin h2 fun s Q E u v _ hu hv hq => by obtain ⟨_, rfl⟩ := hu; obtain ⟨_, rfl⟩ := hv; exact add_int (hq _ _ ⟨_, rfl⟩)
theorem Ev.sub (h1 : Ev (model prog w) A env h eAZ (IsI a)) (h2 : Ev (model prog w) A env h eB (IsI b)) : Ev (model prog w) A env h (.BinOp eAZ .Sub eB pos) (IsI (a - b)) :=
 h1.bin h2 fun s Q E u v _ hu hv hq => by obtain ⟨_, rfl⟩ := hu; obtain ⟨_, rfl⟩ := hv; exact sub_int (hq _ _ ⟨_, rfl⟩)
theorem Ev.mul (h1 : Ev (model prog w) A env h eAZ (IsI a)) (h2 : Ev (model prog w) A env h eB (IsI b)) (hok : IntMulOk a b) : Ev (model prog w) A env h (.BinOp eAZ .Mult eB pos) (IsI (a * b)) :=
 h1.bin h2 fun s Q E u v _ hu hv hq => by obtain ⟨_, rfl⟩ := hu; obtain ⟨_, rfl⟩ := hv; exact mul_int (hq _ _ ⟨_, rfl⟩) hok
theorem Ev.mod (h1 : Ev (model prog w) A env h eAZ (IsI a)) (h2 : Ev (model prog w) A env h eB (IsI b)) (hb : autoParam (b ≠ 0) tA1) : Ev (model prog w) A env h (.BinOp eAZ .Mod eB pos) (IsI (Int.fmod a b)) :=
 h1.bin h2 fun s Q E u v _ hu hv hq => by obtain ⟨_, rfl⟩ := hu; obtain ⟨_, rfl⟩ := hv; exact mod_int hb (hq _ _ ⟨_, rfl⟩)
theorem Ev.fdiv (h1 : Ev (model prog w) A env h eAZ (IsI a)) (h2 : Ev (model prog w) A env h eB (IsI b)) (hb : autoParam (b ≠ 0) tA1) (hp : autoParam (Builtin.divisionGoesByPylong a b = false) tA0) : Ev (model prog w) A env h (.BinOp eAZ .FloorDiv eB pos) (IsI (Int.fdiv a b)) :=
 h1.bin h2 fun s Q E u v _ hu hv hq => by obtain ⟨_, rfl⟩ := hu; obtain ⟨_, rfl⟩ := hv; exact floordiv_int hb (hq _ _ ⟨_, rfl⟩) (.inl hp)
theorem Ev.sadd (h1 : Ev (model prog w) A env h eAZ (IsS x)) (h2 : Ev (model prog w) A env h eB (IsS y)) (hz : x.length + y.length <= 9999999) : Ev (model prog w) A env h (.BinOp eAZ .Add eB pos) (IsS (x ++ y)) :=
 h1.bin h2 fun s Q E u v _ hu hv hq => by obtain ⟨_, rfl⟩ := hu; obtain ⟨_, rfl⟩ := hv; exact SBL.add (hsz := by rw [sizeLine_eq]; omega) fun t k _ => hq _ _ ⟨_, rfl⟩
theorem Ev.sub1 {M : Model} (h1 : Ev M A env h eAZ RA) (h2 : Ev M A env h eB RB)
  (hop : ∀ (s : Shared) (Q E : Value -> Shared -> Prop) u v, s.heap = h -> RA u -> RB v -> (∀ z tk, R z -> Q z (Tk s tk)) -> wpAny M A (subscriptTail eAZ eB u v) Q E s) : Ev M A env h (.Subscript eAZ eB pos) R := by
 intro s Q E hs hq
 refine Subscript_ (h1 s _ E hs fun u tk hu => h2 _ _ E hs fun v tk' hv => hop _ Q E u v hs hu hv fun z tk hz => hq z tk hz)
theorem seq_at {j n : Nat} (h : j < n) : seqIndex? (j : Int) n = some j := by
 have h0 : ¬ ((j : Int) < 0) := by omega
 unfold seqIndex?
 simp only [h0, if_false, Int.toNat_natCast]
 rw [if_pos]
 simp only [Bool.and_eq_true, decide_eq_true_eq]
 omega
theorem lookup_mem {l : List (Str × Value)} (h : (l.map (·.1)).Nodup) {p : Str × Value} (hp : p ∈ l) : l.lookup p.1 = some p.2 := by
 induction l with
 | nil => cases hp
 | cons q l ih =>
  rw [List.map_cons, List.nodup_cons] at h
  rw [List.lookup_cons]
  rcases zC.mp hp with rfl | hp
  ·simp
  ·have hne : (p.1 == q.1) = false := by
    rw [beq_eq_false_iff_ne]
    intro e
    exact h.1 (e ▸ List.mem_map_of_mem hp)
   rw [hne]
   exact ih h.2 hp
theorem Ev.tupI {t : Addr} {l : List Value} {j : Nat} (h1 : Ev (model prog w) A env h eAZ (· = .ref t)) (h2 : Ev (model prog w) A env h eB (IsI j)) (ht : IsTup h t l.toArray) (hx : l[j]? = some v) (hj : autoParam (j < 999) tA1)
  (hs : autoParam (∀ u, subscripted eB false (.ref t) (.int j u) = operate [.ref t, .int j u] (getItem (.ref t) (.int j u))) tA4) : Ev (model prog w) A env h (.Subscript eAZ eB pos) (· = v) :=
 h1.sub1 h2 fun s Q E u z hh hu hz hq => by
  obtain rfl := hu
  obtain ⟨tk, rfl⟩ := hz
  have hjl : j < l.length := (List.getElem?_eq_some_iff.mp hx).1
  subst hh
  exact item_tupleT (j := j) ht (by omega) (by omega) (seq_at hjl) hx (hq v s.toks rfl) (hs tk)
theorem Ev.lstI {t : Addr} {l : List Value} {j : Nat} (h1 : Ev (model prog w) A env h eAZ (· = .ref t)) (h2 : Ev (model prog w) A env h eB (IsI j)) (ht : h.IsList t l.toArray) (hx : l[j]? = some v) (hj : autoParam (j < 999) tA1)
  (hs : autoParam (∀ u, subscripted eB false (.ref t) (.int j u) = operate [.ref t, .int j u] (getItem (.ref t) (.int j u))) tA4) : Ev (model prog w) A env h (.Subscript eAZ eB pos) (· = v) :=
 h1.sub1 h2 fun s Q E u z hh hu hz hq => by
  obtain rfl := hu
  obtain ⟨tk, rfl⟩ := hz
  subst hh
  exact tail_any ht.typeIs slot_list_getitem.lookup (wpAny_getItem_list ht (by omega) (by omega) (by simpa using hx) (hq v s.toks rfl)) (hs tk)
theorem Ev.cmp {M : Model} {op : CmpOp} (h1 : Ev M A env h eAZ RA) (h2 : Ev M A env h eB RB)
  (hop : ∀ (s : Shared) (Q E : Value -> Shared -> Prop) u v, s.heap = h -> RA u -> RB v -> (∀ z tk, R z -> Q z (Tk s tk)) -> wpAny M A (compareOp op u v) Q E s) (hb : autoParam (behindInMarks op eB = false) tA0) : Ev M A env h (.Compare eAZ [op] [eB] pos) R := by
 intro s Q E hs hq
 refine wpAny_Compare1 (h1 s _ E hs fun u tk hu => h2 _ _ E hs fun v tk' hv => hop _ Q E u v hs hu hv fun z tk hz => hq z tk hz) hb
theorem EvT.run {M : Model} {s : Shared} {Q : Bool -> Shared -> Prop} {E : Value -> Shared -> Prop} {c : Bool} (h1 : EvT M A env s.heap e c) (hq : ∀ tk, Q c (Tk s tk)) : wpAny M A (isTrue e env (eval e env)) Q E s := h1 s Q E rfl hq
theorem EvT.cmp {M : Model} {op : CmpOp} {c : Bool} (h1 : Ev M A env h eAZ RA) (h2 : Ev M A env h eB RB)
  (hop : ∀ (s : Shared) (Q E : Value -> Shared -> Prop) u v, s.heap = h -> RA u -> RB v -> (∀ tk, Q (.bool c) (Tk s tk)) -> wpAny M A (compareOp op u v) Q E s) (hb : autoParam (behindInMarks op eB = false) tA0) : EvT M A env h (.Compare eAZ [op] [eB] pos) c := by
 intro s Q E hs hq
 refine wpAny_isTrue_Compare1 (h1 s _ E hs fun u tk hu => h2 _ _ E hs fun v tk' hv => hop _ _ E u v hs hu hv fun tk => wpAny_truthy_bool (hq tk)) hb
theorem EvT.eqS (h1 : Ev (model prog w) A env h eAZ (IsS x)) (h2 : Ev (model prog w) A env h eB (IsS y)) (hb : autoParam (behindInMarks .Eq eB = false) tA0) : EvT (model prog w) A env h (.Compare eAZ [.Eq] [eB] pos) (x == y) :=
 EvT.cmp h1 h2 (fun s Q E u v _ hu hv hq => by obtain ⟨_, rfl⟩ := hu; obtain ⟨_, rfl⟩ := hv; exact eq_str (hq s.toks)) hb
theorem EvT.eqI (h1 : Ev (model prog w) A env h eAZ (IsI a)) (h2 : Ev (model prog w) A env h eB (IsI b)) (hb : autoParam (behindInMarks .Eq eB = false) tA0) : EvT (model prog w) A env h (.Compare eAZ [.Eq] [eB] pos) (a == b) :=
 EvT.cmp h1 h2 (fun s Q E u v _ hu hv hq => by obtain ⟨_, rfl⟩ := hu; obtain ⟨_, rfl⟩ := hv; exact eq_int (hq s.toks)) hb
theorem EvT.ltI (h1 : Ev (model prog w) A env h eAZ (IsI a)) (h2 : Ev (model prog w) A env h eB (IsI b)) (hb : autoParam (behindInMarks .Lt eB = false) tA0) : EvT (model prog w) A env h (.Compare eAZ [.Lt] [eB] pos) (decide (a < b)) :=
 EvT.cmp h1 h2 (fun s Q E u v _ hu hv hq => by obtain ⟨_, rfl⟩ := hu; obtain ⟨_, rfl⟩ := hv; exact lt_int (hq s.toks)) hb
theorem EvT.bool {c : Bool} {M : Model} (h1 : Ev M A env h e (· = .bool c)) (hp : autoParam (isTrue e env (eval e env) = (do let v <- eval e env; standAt (Expr.pos e); holding [v] (truthy v))) tA0) : EvT M A env h e c := by
 intro s Q E hs hq
 exact isTrue_plain (h1 s _ E hs fun v tk hv => by subst hv; exact wpAny_truthy_bool (hq tk)) hp
end
section
variable {prog : Program} {w : World} {A : Around} {env : Env} {h hZ : Heap} {m : Str -> Option Value} {news : List (Addr × Obj)} {e eAZ eB : Expr} {R RA RB : Value -> Prop} {v : Value} {x y : Str} {pos pA pB pC : Pos} {s : Shared} {Q : Flow -> Shared -> Prop} {E : Value -> Shared -> Prop} {rest body orelse : List Stmt}
theorem st_assign {M : Model} (F : Fr hZ env.locals s.heap m) (N : News hZ env.locals s.heap news) (he : Ev M A env s.heap e R)
  (hr : ∀ v h' tk, R v -> Fr hZ env.locals h' (mput m x v) -> News hZ env.locals h' news -> wpAny M A (execs rest env) Q E (St s h' tk))
  (hx : autoParam (env.kindOf x = some .local) tA0) (hp : autoParam ((env.scope.kind == .class || (env.scope.kind == .module && env.locals != env.globals)) = false) tA0) (hs : autoParam (swapsWith e (some (.Name x pA)) pos.line env = pure false) tA0) :
  wpAny M A (execs (.Assign [.Name x pA] e pos :: rest) env) Q E s :=
 wpAny_execs_cons (wpAny_Assign_Name (he s _ E rfl fun v tk hv => wpAny_storeName_local hx F.ns (fun h' hn hs => hr v h' _ hv (F.set hn hs) (N.set hs)) hp) hs)
theorem st_if {M : Model} {b : Bool} (ht : EvT M A env s.heap e b)
  (h1 : ∀ tk, b = true -> wpAny M A (execs body env) (fun f s' => match f with | .next => wpAny M A (execs rest env) Q E s' | f => Q f s') E (Tk s tk))
  (h2 : ∀ tk, b = false -> wpAny M A (execs orelse env) (fun f s' => match f with | .next => wpAny M A (execs rest env) Q E s' | f => Q f s') E (Tk s tk)) : wpAny M A (execs (.If e body orelse pos :: rest) env) Q E s := by
 refine wpAny_execs_cons (wpAny_If (ht s _ E rfl fun tk => ?_))
 cases b with
 | true => exact h1 tk rfl
 | false => exact h2 tk rfl
theorem st_if1 {M : Model} {b : Bool} (ht : EvT M A env s.heap e b) (h1 : ∀ tk, b = true -> wpAny M A (execs body env) Q E (Tk s tk))
  (h2 : ∀ tk, b = false -> wpAny M A (execs orelse env) Q E (Tk s tk)) : wpAny M A (execs [.If e body orelse pos] env) Q E s := by
 refine st_if ht (fun tk hb => wpAny_mono (h1 tk hb) (fun f s' h => ?_) fun _ _ x => x) (fun tk hb => wpAny_mono (h2 tk hb) (fun f s' h => ?_) fun _ _ x => x)
 ·cases f <;> first | exact h | exact wpAny_execs_nil h
 ·cases f <;> first | exact h | exact wpAny_execs_nil h
theorem st_ret {M : Model} (he : Ev M A env s.heap e R) (hq : ∀ v tk, R v -> Q (.ret v) (Tk s tk)) : wpAny M A (execs (.Return (some e) pos :: rest) env) Q E s :=
 wpAny_execs_cons (wpAny_Return_some (he s _ E rfl fun v tk hv => hq v tk hv))
theorem st_item {d : Addr} {o : Obj} {D : FD} {kx : Str} {g : Obj -> List (Addr × Obj)} {T : List (Addr × Obj)} {xv : FV} (F : Fr hZ env.locals s.heap m) (N : News hZ env.locals s.heap news) (he : Ev (model prog w) A env s.heap e R) (hd : Ev (model prog w) A env s.heap eAZ (· = .ref d)) (hk : Ev (model prog w) A env s.heap eB (IsS kx))
  (U : UpdF d o news g) (hD : DictIs prog w T d o D) (hv : ∀ v, R v -> VIn T v xv) (hz : D.length <= 99)
  (hr : ∀ h' o' tk, Fr hZ env.locals h' m -> News hZ env.locals h' (g o') -> DictIs prog w T d o' (dPut D kx xv) -> wpAny (model prog w) A (execs rest env) Q E (St s h' tk))
  (hs : autoParam (swapsWith e (some (.Subscript eAZ eB pA)) pos.line env = pure false) tA0) : wpAny (model prog w) A (execs (.Assign [.Subscript eAZ eB pA] e pos :: rest) env) Q E s :=
 wpAny_execs_cons (wpAny_Assign_Subscript (he s _ E rfl fun v tk hvv => hd _ _ E rfl fun dv tk' hdv => hk _ _ E rfl fun kv tk'' hkv => by
  obtain rfl := hdv
  obtain ⟨t, rfl⟩ := hkv
  exact d_set F N U hD (hv v hvv) hz fun h' o' F' N' hD' => hr h' o' _ F' N' hD') hs)
theorem st_itemI {d : Addr} {o : Obj} {D : FD} {kx : Str} {g : Obj -> List (Addr × Obj)} {T : List (Addr × Obj)} {n : Int} (F : Fr hZ env.locals s.heap m) (N : News hZ env.locals s.heap news) (he : Ev (model prog w) A env s.heap e (IsI n)) (hd : Ev (model prog w) A env s.heap eAZ (· = .ref d)) (hk : Ev (model prog w) A env s.heap eB (IsS kx))
  (U : UpdF d o news g) (hD : DictIs prog w T d o D) (hz : D.length <= 99)
  (hr : ∀ h' o' tk, Fr hZ env.locals h' m -> News hZ env.locals h' (g o') -> DictIs prog w T d o' (dPut D kx (.int n)) -> wpAny (model prog w) A (execs rest env) Q E (St s h' tk))
  (hs : autoParam (swapsWith e (some (.Subscript eAZ eB pA)) pos.line env = pure false) tA0) : wpAny (model prog w) A (execs (.Assign [.Subscript eAZ eB pA] e pos :: rest) env) Q E s :=
 st_item F N he hd hk U hD (fun v hv => by obtain ⟨t, rfl⟩ := hv; exact .int _ _) hz hr hs
theorem st_nil {M : Model} (h : Q .next s) : wpAny M A (execs [] env) Q E s := wpAny_execs_nil h
end
noncomputable def Ret (g : Heap) (L : Addr) (news : List (Addr × Obj)) (s : Shared) (Post : Value -> List (Addr × Obj) -> Prop) (fl : Flow) (s' : Shared) : Prop :=
 ∃ new h' tk' m', s' = (St s h' tk') /\ Fr g L h' m' /\ News g L h' (new ++ news) /\ (Ap news new) /\ Post (match fl with | .ret v => v | _ => .none) new
noncomputable def Never (_ : Value) (_ : Shared) : Prop := False
theorem passes_never {M : Model} {A : Around} {env : Env} : PassesOwn M A env Never := fun _ _ h => h.elim
noncomputable def Gives (w : World) (f : Addr) (D U : Nat) (vs : List Value) (kw : List (Str × Value)) (news : List (Addr × Obj)) (Post : Value -> List (Addr × Obj) -> Prop) : Prop :=
 ∀ (A : Around) (env : Env) (hZ : Heap) (L : Addr) (m : Str -> Option Value) (s : Shared) (Q E : Value -> Shared -> Prop), At w A env hZ L D U -> Fr hZ L s.heap m -> News hZ L s.heap news ->
  (∀ r new h' tk', Post r new -> (Ap news new) -> Fr hZ L h' m -> News hZ L h' (new ++ news) -> Q r (St s h' tk')) ->
  wpAny (model rW.prog w) A (call (.ref f) vs kw) Q E s
theorem enter {w : World} {f : Addr} {D U : Nat} {vs : List Value} {kw : List (Str × Value)} {news : List (Addr × Obj)} {Post : Value -> List (Addr × Obj) -> Prop}
  {name qual : Str} {params : Arguments} {body : List Stmt} {scope : Scope} {dV kV doc pm cdv ct oc : Value} {an od : Option Addr} {osl : Array (Option Value)} {binds : List (Str × Value)}
  (ho : (KK w.params).lookup f = some ⟨oc, od, .func (fnOf name qual params body scope dV kV doc pm an cdv ct), osl⟩) (hcd : codeIn (KK w.params) cdv qual = true)
  (hbind : bindArgs (fnOf name qual params body scope dV kV doc pm an cdv ct) ⟨vs, kw⟩ = pure binds) (hloc : (binds.all fun x => decide (scope.names.lookup x.1 = some .local)) = true)
  (hb : ∀ (A : Around) (g : Heap) (L : Addr) (s : Shared) (m : Str -> Option Value), At w A (envOf qual scope L f cdv) g L D U -> Fr g L s.heap m -> (∀ p ∈ binds, m p.1 = some p.2) -> News g L s.heap news ->
   wpAny (model rW.prog w) A (execs body (envOf qual scope L f cdv)) (Ret g L news s Post) Never s)
  (hn : ∃ ns, binds.map (·.1) = ns /\ ns.Nodup) (hco : autoParam (scope.isCoroutine = false) tA0) (hgen : autoParam (scope.isGenerator = false) tA0) (hk : autoParam (scope.kind = .function) tA0) (hcell : autoParam (∀ x ∈ scope.names, x.2 ≠ .cell) tA1) :
  Gives w f (D + 1) (U + 3) vs kw news Post := by
 obtain ⟨_, rfl, hn⟩ := hn
 intro A env hZ L m s Q E a F N hret
 obtain ⟨p, loose, mean, mg, mb, A₀, base, outer, B, T, hA, bxx⟩ := a.exb
 refine wpAny_call (code_def B F a.K N T hA a.fr a.kd ho hcd (by have := a.dp; omega) (BindsTo.of_eq hbind) (locs hloc) (fun g L' hAZ FG F' N' B' X' T' => ?_) hco hgen hk hcell)
 refine wpAny_mono (hb (A.deeper (envOf qual scope L' f cdv)) g L' _ _ ⟨⟨p, loose, mean, mg, mb, A, base, env :: outer, B', T', by show (A.frames.map _) = _; rw [hA]; rfl⟩, a.hh, rfl, rfl, hk, X', by show A.depth + 1 + D < _; have := a.dp; omega, by show A.units + 3 + U < _; have := a.un; omega, bxx _ _ B'⟩ F' (fun q hq => ?_) N') (fun fl s' hR => ?_) (fun _ _ h => h.elim)
 ·exact lookup_mem (by rw [List.map_reverse]; exact List.pairwise_reverse.mpr (List.Pairwise.imp (fun h e => h e.symm) hn)) (List.mem_reverse.mpr hq)
 ·obtain ⟨new, h', tk', m', rfl, F2, N2, hl, hp⟩ := hR
  exact ⟨L', m', _, F2, N2, fun kF kN => hret _ new h' tk' hp hl kF kN⟩
noncomputable def EvL (M : Model) (A : Around) (env : Env) (h : Heap) (es : List Expr) (R : List Value -> Prop) : Prop :=
 ∀ (s : Shared) (Q : List Value -> Shared -> Prop) (E : Value -> Shared -> Prop) (pos : Pos), s.heap = h -> (∀ vs tk, R vs -> Q vs (Tk s tk)) -> wpAny M A (spliced (backTo pos (starEach es env))) Q E s
noncomputable def EvN (M : Model) (A : Around) (env : Env) (hZ : Heap) (L : Addr) (m : Str -> Option Value) (news : List (Addr × Obj)) (e : Expr) (R : Value -> List (Addr × Obj) -> Prop) : Prop :=
 ∀ (s : Shared) (Q E : Value -> Shared -> Prop), Fr hZ L s.heap m -> News hZ L s.heap news ->
  (∀ v new h' tk, R v new -> (Ap news new) -> Fr hZ L h' m -> News hZ L h' (new ++ news) -> Q v (St s h' tk)) -> wpAny M A (eval e env) Q E s
section
variable {prog : Program} {w : World} {A : Around} {env : Env} {h hZ : Heap} {L : Addr} {m : Str -> Option Value} {news : List (Addr × Obj)} {e eAZ eB : Expr} {es : List Expr} {R RA RB : Value -> Prop} {RN : Value -> List (Addr × Obj) -> Prop} {RL : List Value -> Prop} {v : Value} {x y : Str} {pos pA pB pC : Pos} {s : Shared} {Q : Flow -> Shared -> Prop} {E : Value -> Shared -> Prop} {rest body orelse : List Stmt}
theorem EvL.nil {M : Model} : EvL M A env h [] (· = []) := fun s _ _ _ _ hq => spliced_none (hq [] s.toks rfl)
theorem EvL.cons {M : Model} (h1 : Ev M A env h e R) (h2 : EvL M A env h es RL) (hs : autoParam (starEach (e :: es) env = (false, eval e env) :: starEach es env) tA0) : EvL M A env h (e :: es) (fun vs => ∃ v vs', vs = v :: vs' /\ R v /\ RL vs') :=
 fun s Q E pos hh hq => spliced_more (h1 s _ E hh fun v tk hv => h2 _ _ E pos hh fun vs tk' hvs => hq (v :: vs) tk' ⟨v, vs, rfl, hv, hvs⟩) hs
theorem EvL.one {M : Model} (h1 : Ev M A env h e R) (hs : autoParam (starEach [e] env = (false, eval e env) :: starEach [] env) tA0) : EvL M A env h [e] (fun vs => ∃ v, vs = [v] /\ R v) :=
 fun s Q E pos hh hq => spliced_more (h1 s _ E hh fun v tk hv => spliced_none (hq [v] tk ⟨v, rfl, hv⟩)) hs
theorem above_size {o : Obj} (F : Fr hZ L s.heap m) (N : News hZ L s.heap news) : ∀ q ∈ news, ∀ x ∈ [(s.heap.objs.size, o)], q.1 ≠ x.1 := fun q hq x hx => by
 rw [zS.mp hx]; exact Nat.ne_of_lt (Heap.lt_size (N q hq).1)
theorem EvN.list {M : Model} (he : ∀ h, Fr hZ L h m -> News hZ L h news -> EvL M A env h es RL) (hz : ∀ vs, RL vs -> vs.length <= 99) : EvN M A env hZ L m news (.List es pos) (fun v new => ∃ a vs, RL vs /\ v = .ref a /\ new = [(a, listOf vs.toArray 0)]) :=
 fun s Q E F N hq => List_ (he _ F N s _ E pos rfl fun vs tk hvs => newList_N (s := (Tk s tk)) F N (fun h' F' N' => hq _ _ h' tk ⟨_, vs, hvs, rfl, rfl⟩ (above_size F N) F' N') (by have := hz vs hvs; rw [sizeLine_eq]; omega))
theorem EvN.tup {M : Model} (he : ∀ h, Fr hZ L h m -> News hZ L h news -> EvL M A env h es RL) (hz : ∀ vs, RL vs -> vs.length <= 99) {kk : Nat} : EvN M A env hZ L m news (.Tuple es kk pos) (fun v new => ∃ a vs, RL vs /\ v = .ref a /\ new = [(a, ({ cls := .type "tuple", data := .seq vs.toArray 0 } : Obj))]) :=
 fun s Q E F N hq => Tuple_ (he _ F N s _ E pos rfl fun vs tk hvs => newTuple_N (s := (Tk s tk)) F N (fun h' F' N' => hq _ _ h' tk ⟨_, vs, hvs, rfl, rfl⟩ (above_size F N) F' N') (by have := hz vs hvs; rw [sizeLine_eq]; omega))
theorem EvN.dict {D U : Nat} (a : At w A env hZ L D U) : EvN (model prog w) A env hZ L m news (.Dict [] [] pos) (fun v new => ∃ d o, (∀ T, DictIs prog w T d o []) /\ v = .ref d /\ new = [(d, o)]) := fun s Q E F N hq => by
 obtain ⟨p, loose, mean, mg, mb, A₀, base, outer, B, T, hA, bxx⟩ := a.exb
 exact d_new F N T.nolimit fun d h' o F' N' l hd => hq _ [(d, o)] h' s.toks ⟨d, o, hd, rfl, rfl⟩ (fun q hq x hx => by rw [zS.mp hx]; exact Nat.ne_of_lt (l q hq)) F' N'
noncomputable def Gl (w : World) (h : Heap) : Prop := ∃ mg mb, h.Ns mainGlobals mg /\ (∀ x v, nsIn (KK w.params) mainGlobals x = some v -> mg x = v) /\ h.Ns builtinsNs mb /\ ∀ x v, bootBuiltins x = some v -> x ≠ oS "__name__" -> mb x = some v
theorem Gl.keeps {h h' : Heap} (G : Gl w h) (k : ∀ b o, h.get? b = some o -> h'.get? b = some o) : Gl w h' := let ⟨mg, mb, a, b, c, d⟩ := G; ⟨mg, mb, a.keeps k, b, c.keeps k, d⟩
theorem At.gl {D U : Nat} (a : At w A env hZ L D U) : Gl w hZ := by
 obtain ⟨p, loose, mean, mg, mb, A₀, base, outer, B, T, hA, bxx⟩ := a.exb
 refine ⟨mg, mb, (topRead_of T).g, fun x v e => ?_, (topRead_of T).b, fun x v e hn => ((topRead_of T).builtins x hn).trans e⟩
 cases v with
 | none => exact mg_none_of a.K (topRead_of T).g e
 | some v => exact mg_of a.K (topRead_of T).g e
theorem Ev.glob {M : Model} (G : Gl w h) (hn : nsIn (KK w.params) mainGlobals x = some (some v)) (hg : autoParam (env.globals = mainGlobals) tA0) (hk : autoParam (env.scope.kind = .function) tA0) (hx : autoParam (env.kindOf x = some .globalImplicit) tA0) (hb : autoParam ((x == ("__debug__" : Str)) = false) tA1) : Ev M A env h (.Name x pos) (· = v) := by
 rintro s Q E rfl hq
 obtain ⟨mg, mb, a, b, c, d⟩ := G
 exact Calls.Name_function_global hk hx (Calls.loadGlobal_global (by rw [hg]; exact a) (b _ _ hn) (hq v s.toks rfl)) hb
theorem Ev.built {M : Model} (G : Gl w h) (hn : nsIn (KK w.params) mainGlobals x = some Option.none) (hbt : bootBuiltins x = some v) (hne : autoParam (x ≠ oS "__name__") tA1) (hg : autoParam (env.globals = mainGlobals) tA0) (hbl : autoParam (env.builtins = builtinsNs) tA0) (hk : autoParam (env.scope.kind = .function) tA0) (hx : autoParam (env.kindOf x = some .globalImplicit) tA0) (hb : autoParam ((x == ("__debug__" : Str)) = false) tA1) : Ev M A env h (.Name x pos) (· = v) := by
 rintro s Q E rfl hq
 obtain ⟨mg, mb, a, b, c, d⟩ := G
 exact Calls.Name_function_global hk hx (Calls.loadGlobal_builtin (by rw [hg]; exact a) (b _ _ hn) (by rw [hbl]; exact c) (d _ _ hbt hne) (hq v s.toks rfl)) hb
theorem EvN.fn {D U : Nat} {f : Addr} {e : Expr} (a : At w A env hZ L D U) (hf : ∀ h, Fr hZ L h m -> News hZ L h news -> Ev (model rW.prog w) A env h eAZ (· = .ref f)) (hk : keepIn (KK w.params) (.ref f) = true)
  (he : ∀ h, Fr hZ L h m -> News hZ L h news -> EvL (model rW.prog w) A env h (e :: es) RL) (G : ∀ vs, RL vs -> Gives w f D U vs [] news RN)
  (hs : autoParam (starEach (e :: es) env = (false, eval e env) :: starEach es env) tA0) (hn : autoParam (((backTo pos (starEach es env)).any fun x => x.1) = false) tA0)
  (hc : autoParam (eval (.Call eAZ (e :: es) [] pos) env = (do let f <- eval eAZ env; callWith pos f [] (backTo pos (starEach (e :: es) env)) (backToKw pos (keywordEach [] env)))) tA0) :
  EvN (model rW.prog w) A env hZ L m news (.Call eAZ (e :: es) [] pos) RN := fun s Q E F N hq => by
 refine Call_ (hf _ F N s _ E rfl fun v tk hv => ?_) hc
 subst hv
 refine callWith_K a.K hk (he _ F N _ _ E pos rfl fun vs tk' hvs => ⟨a.K.keeps F.keep, ?_⟩) hs hn
 exact G vs hvs A env hZ L m (Tk s tk') Q E a F N fun r new h' tk'' hp hl F' N' => hq r new h' tk'' hp hl F' N'
theorem st_assignN {M : Model} (hL : env.locals = L) (F : Fr hZ L s.heap m) (N : News hZ L s.heap news) (he : EvN M A env hZ L m news e RN)
  (hr : ∀ v new h' tk, RN v new -> (Ap news new) -> Fr hZ L h' (mput m x v) -> News hZ L h' (new ++ news) -> wpAny M A (execs rest env) Q E (St s h' tk))
  (hx : autoParam (env.kindOf x = some .local) tA0) (hp : autoParam ((env.scope.kind == .class || (env.scope.kind == .module && env.locals != env.globals)) = false) tA0) (hs : autoParam (swapsWith e (some (.Name x pA)) pos.line env = pure false) tA0) :
  wpAny M A (execs (.Assign [.Name x pA] e pos :: rest) env) Q E s := by
 subst hL
 exact wpAny_execs_cons (wpAny_Assign_Name (he s _ E F N fun v new h1 tk hv hl F1 N1 => wpAny_storeName_local hx F1.ns (fun h' hn hs => hr v new h' _ hv hl (F1.set hn hs) (N1.set hs)) hp) hs)
theorem st_append {pl : Sem Bool} {l : Addr} {its : Array Value} {n : Nat} {news' : Value -> List (Addr × Obj)} (F : Fr hZ L s.heap m) (N : News hZ L s.heap news) (ho : Ev (model prog w) A env s.heap eAZ (· = .ref l)) (he : Ev (model prog w) A env s.heap e R)
  (U : ∀ v, R v -> Upd l (listOf its n) (listOf (its.push v) (n + 1)) news (news' v)) (hm : (l, listOf its n) ∈ news) (hz : its.size <= 999999)
  (hr : ∀ v h' tk, R v -> Fr hZ L h' m -> News hZ L h' (news' v) -> wpAny (model prog w) A (execs rest env) Q E (St s h' tk))
  (hs : autoParam (starEach [e] env = (false, eval e env) :: starEach [] env) tA0) (hnn : autoParam (((backTo pB (starEach [] env)).any fun x => x.1) = false) tA0) (hi : autoParam (interactive env = false) tA0) (hsw : autoParam (swapsWith (.Call (.Attribute eAZ (oS "append") pA) [e] [] pB) none pos.line env = pure false) tA0)
  (hc : autoParam (eval (.Call (.Attribute eAZ (oS "append") pA) [e] [] pB) env = (do
   let ov <- eval eAZ env
   standAt pA.atName
   let (f, first) <- holding [ov] (getMethod ov (oS "append") pl)
   callWith pB f first (backTo pB (starEach [e] env)) [])) tA0) : wpAny (model prog w) A (execs (.Expr (.Call (.Attribute eAZ (oS "append") pA) [e] [] pB) pos :: rest) env) Q E s := by
 refine wpAny_execs_cons (wpAny_Expr_any ?_ hi hsw)
 refine MethodCall_ (ho s _ E rfl fun v tk hv => ?_) hc
 subst hv
 refine listMethod_K N hm PySem.F.slot_list_append PySem.F.type_list_append ?_
 refine PyProof.Rows.callWith_method1 (spliced_more (he _ _ E rfl fun v tk' hv => spliced_none ?_) hs) hs hnn
 exact append_K F N (U v hv) (fun h' F' N' => hr v h' tk' hv F' N') (by rw [sizeLine_eq]; omega)
end
noncomputable def WhilePost {σ : Type} (hZ : Heap) (L : Addr) (s : Shared) (Led : σ -> List (Addr × Obj)) (P : σ -> (Str -> Option Value) -> Array GenState -> Prop) (μ : σ -> Nat) (Qr : Value -> Shared -> Prop) (Qb : Shared -> Prop) (c : σ) (f : Flow) (sB : Shared) : Prop :=
 match f with
 | .ret v => Qr v sB
 | .brk => Qb sB
 | _ => ∃ (c' : σ) (m' : Str -> Option Value) (h' : Heap) (g' : Array GenState) (tk' : Nat), sB = (Sg s h' g' tk') /\ Fr hZ L h' m' /\ News hZ L h' (Led c') /\ P c' m' g' /\ μ c' < μ c
section
variable {prog : Program} {w : World} {A : Around} {env : Env} {h hZ : Heap} {L : Addr} {mZ : Str -> Option Value} {e eAZ eB : Expr} {es : List Expr} {RL : List Value -> Prop} {R : Value -> Prop} {x : Str} {pos pA pB : Pos} {s : Shared} {Q : Flow -> Shared -> Prop} {E : Value -> Shared -> Prop} {rest body : List Stmt}
theorem st_while {σ : Type} (Led : σ -> List (Addr × Obj)) (P : σ -> (Str -> Option Value) -> Array GenState -> Prop) (μ : σ -> Nat) (cZ : σ) (F : Fr hZ env.locals s.heap mZ) (N : News hZ env.locals s.heap (Led cZ)) (hp : P cZ mZ s.gens)
  (turn : ∀ c m h g, P c m g -> Fr hZ env.locals h m -> News hZ env.locals h (Led c) -> ∃ b, EvT (model prog w) A env h e b /\
   (b = true -> ∀ tk', wpAny (model prog w) A (execs body env) (WhilePost hZ env.locals s Led P μ (fun v sB => Q (.ret v) sB) (fun sB => wpAny (model prog w) A (execs rest env) Q E sB) c) E (Sg s h g tk')) /\
   (b = false -> ∀ tk', wpAny (model prog w) A (execs rest env) Q E (Sg s h g tk')))
  (hE : PassesOwn (model prog w) A env E) : wpAny (model prog w) A (execs (.While e body [] pos :: rest) env) Q E s := by
 obtain ⟨J, hJ⟩ : ∃ J : Nat -> Shared -> Prop, J = fun n s' => ∃ c hAZ mA gA tkA, s' = (Sg s hAZ gA tkA) /\ Fr hZ env.locals hAZ mA /\ News hZ env.locals hAZ (Led c) /\ P c mA gA /\ μ c = n := ⟨_, rfl⟩
 refine wpAny_execs_cons (wpAny_While (codeAny_whileLoop J ?_ (μ cZ) (hJ ▸ ⟨cZ, s.heap, mZ, s.gens, s.toks, rfl, F, N, hp, rfl⟩)))
 intro n s' y8
 rw [hJ] at y8
 apply ab2 n s'; intro T9 e9
 obtain ⟨c, hAZ, mA, gA, tkA, rfl, FA, NA, hpA, rfl⟩ := y8
 obtain ⟨b, ht, h1, h2⟩ := turn c mA hAZ gA hpA FA NA
 subst e9
 refine wpAny_passesOwn hE (ht _ _ E rfl fun tk' => ?_)
 cases b with
 | false => exact wpAny_execs_nil (h2 rfl tk')
 | true =>
  refine wpAny_mono (h1 rfl tk') (fun f sC hCZ => ?_) hE
  cases f with
  | next =>
   refine (?_ : ∃ m, m < μ c /\ J m sC)
   obtain ⟨c', m', h', g', tk, rfl, FB, NB, hpB, hm⟩ := hCZ
   exact ⟨_, hm, by rw [hJ]; exact ⟨c', h', m', g', tk, rfl, FB, NB, hpB, rfl⟩⟩
  | cont =>
   refine (?_ : ∃ m, m < μ c /\ J m sC)
   obtain ⟨c', m', h', g', tk, rfl, FB, NB, hpB, hm⟩ := hCZ
   exact ⟨_, hm, by rw [hJ]; exact ⟨c', h', m', g', tk, rfl, FB, NB, hpB, rfl⟩⟩
  | brk => exact hCZ
  | ret v => exact hCZ
theorem st_for {σ : Type} {px : Pos} {l : Addr} {ol : Obj} {items : List Value} {ep : Nat} (tup : Bool)
  (he : Ev (model prog w) A env s.heap e (· = .ref l)) (hh : A.handled = none)
  (Led : σ -> List (Addr × Obj)) (P : Nat -> σ -> (Str -> Option Value) -> Array GenState -> Prop) (cZ : σ) (muts : List Addr) (newsZ : List (Addr × Obj))
  (hc : ol.cls = .type (if tup then "tuple" else "list")) (hd : ol.data = .seq items.toArray ep)
  (F : Fr hZ env.locals s.heap mZ) (N : News hZ env.locals s.heap (Led cZ ++ newsZ)) (hn : ∀ q ∈ newsZ, q.1 ∉ muts) (hm : ∀ a ∈ muts, ∃ o, (a, o) ∈ Led cZ)
  (hl : hZ.get? l = some ol ∨ (l, ol) ∈ newsZ) (hp : P 0 cZ mZ s.gens) (hpl : ∀ i c m g, P i c m g -> ∀ p ∈ Led c, plainO p.2)
  (turn : ∀ (i : Nat) (c : σ) m h g tk rest' v, items[i]? = some v -> P i c m g -> (∀ q ∈ rest', q.1 ∉ muts) -> (∀ q ∈ newsZ, q ∈ rest') -> Fr hZ env.locals h (mput m x v) -> News hZ env.locals h (Led c ++ rest') ->
   wpAny (model prog w) A (execs body env) (ForPost hZ env.locals s Led P muts (fun f s' => match f with | .next => wpAny (model prog w) A (execs rest env) Q E s' | f => Q f s') i rest') E (Sg s h g tk))
  (done : ∀ (c : σ) m h g tk, P items.length c m g -> Fr hZ env.locals h m -> News hZ env.locals h (Led c ++ newsZ) -> wpAny (model prog w) A (execs rest env) Q E (Sg s h g tk))
  (hE : PassesOwn (model prog w) A env E) (hx : autoParam (env.kindOf x = some .local) tA0) (hpp : autoParam ((env.scope.kind == .class || (env.scope.kind == .module && env.locals != env.globals)) = false) tA0) (hs : autoParam (∀ v, foldedSetIterable e env v = pure v) tA2) :
  wpAny (model prog w) A (execs (.For (.Name x px) e body [] pos :: rest) env) Q E s := by
 refine wpAny_execs_cons (wpAny_For (he s _ E rfl fun v tk hv => ?_) hs)
 subst hv
 exact for_J (s := (Tk s tk)) tup hh hx hpp Led P cZ muts newsZ hc hd F N hn hm hl hp hpl turn done hE
theorem Ev.callB {M : Model} {f : String} {R' : Value -> Prop} (hf : Ev M A env h eAZ (· = .builtin f)) (he : EvL M A env h (eB :: es) RL)
  (hop : ∀ (s : Shared) (Q E : Value -> Shared -> Prop) vs, s.heap = h -> RL vs -> (∀ z tk, R' z -> Q z (Tk s tk)) -> wpAny M A (call (.builtin f) vs) Q E s)
  (hs : autoParam (starEach (eB :: es) env = (false, eval eB env) :: starEach es env) tA0) (hn : autoParam (((backTo pos (starEach es env)).any fun x => x.1) = false) tA0)
  (hc : autoParam (eval (.Call eAZ (eB :: es) [] pos) env = (do let f <- eval eAZ env; callWith pos f [] (backTo pos (starEach (eB :: es) env)) (backToKw pos (keywordEach [] env)))) tA0) : Ev M A env h (.Call eAZ (eB :: es) [] pos) R' := by
 intro s Q E hh hq
 refine Call_ (hf s _ E hh fun v tk hv => ?_) hc
 subst hv
 exact PyProof.Rows.callWith_builtin1 (he _ _ E pos hh fun vs tk' hvs => hop _ Q E vs hh hvs fun z tk hz => hq z tk hz) hs hn
theorem Ev.callT {M : Model} {f : String} {R' : Value -> Prop} (hf : Ev M A env h eAZ (· = .type f)) (he : EvL M A env h (eB :: es) RL)
  (hop : ∀ (s : Shared) (Q E : Value -> Shared -> Prop) vs, s.heap = h -> RL vs -> (∀ z tk, R' z -> Q z (Tk s tk)) -> wpAny M A (call (.type f) vs) Q E s)
  (hs : autoParam (starEach (eB :: es) env = (false, eval eB env) :: starEach es env) tA0) (hn : autoParam (((backTo pos (starEach es env)).any fun x => x.1) = false) tA0)
  (hc : autoParam (eval (.Call eAZ (eB :: es) [] pos) env = (do let f <- eval eAZ env; callWith pos f [] (backTo pos (starEach (eB :: es) env)) (backToKw pos (keywordEach [] env)))) tA0) : Ev M A env h (.Call eAZ (eB :: es) [] pos) R' := by
 intro s Q E hh hq
 refine Call_ (hf s _ E hh fun v tk hv => ?_) hc
 subst hv
 exact PyProof.Rows.callWith_type1 (he _ _ E pos hh fun vs tk' hvs => hop _ Q E vs hh hvs fun z tk hz => hq z tk hz) hs hn
theorem glen (P : Params) : nsIn (KK P) mainGlobals (oS "len") = some Option.none := by with_unfolding_all rfl
theorem gstr (P : Params) : nsIn (KK P) mainGlobals (oS "str") = some Option.none := by with_unfolding_all rfl
theorem Ev.len {l : Addr} {items : List Value} (G : Gl w h) (he : Ev (model prog w) A env h eB (· = .ref l)) (hl : h.IsList l items.toArray) (hz : items.length <= 999999)
  (hg : autoParam (env.globals = mainGlobals) tA0) (hbl : autoParam (env.builtins = builtinsNs) tA0) (hk : autoParam (env.scope.kind = .function) tA0) (hx : autoParam (env.kindOf (oS "len") = some .globalImplicit) tA0)
  (hs : autoParam (starEach [eB] env = (false, eval eB env) :: starEach [] env) tA0) (hn : autoParam (((backTo pos (starEach [] env)).any fun x => x.1) = false) tA0)
  (hc : autoParam (eval (.Call (.Name (oS "len") pA) [eB] [] pos) env = (do let f <- eval (.Name (oS "len") pA) env; callWith pos f [] (backTo pos (starEach [eB] env)) (backToKw pos (keywordEach [] env)))) tA0) :
  Ev (model prog w) A env h (.Call (.Name (oS "len") pA) [eB] [] pos) (IsI items.length) := by
 refine Ev.callB (f := "len") (RL := fun vs => ∃ v, vs = [v] /\ v = .ref l) (Ev.built G (glen _) (by rfl) (by decide) hg hbl hk hx) (EvL.one he hs) (fun s Q E vs hh hvs hq => ?_) hs hn hc
 obtain ⟨v, rfl, rfl⟩ := hvs
 subst hh
 exact call_len_list hl (by rw [List.size_toArray]; omega) (by rw [List.size_toArray]; exact hq _ _ ⟨_, rfl⟩)
noncomputable abbrev intStr (n : Int) : Str := oS (toString n)
noncomputable abbrev Small (n : Int) : Prop := -1000000000 < n /\ n < 1000000000
theorem Ev.strI {n : Int} (G : Gl w h) (he : Ev (model prog w) A env h eB (IsI n)) (hz : Small n)
  (hg : autoParam (env.globals = mainGlobals) tA0) (hbl : autoParam (env.builtins = builtinsNs) tA0) (hk : autoParam (env.scope.kind = .function) tA0) (hx : autoParam (env.kindOf (oS "str") = some .globalImplicit) tA0)
  (hs : autoParam (starEach [eB] env = (false, eval eB env) :: starEach [] env) tA0) (hn : autoParam (((backTo pos (starEach [] env)).any fun x => x.1) = false) tA0)
  (hc : autoParam (eval (.Call (.Name (oS "str") pA) [eB] [] pos) env = (do let f <- eval (.Name (oS "str") pA) env; callWith pos f [] (backTo pos (starEach [eB] env)) (backToKw pos (keywordEach [] env)))) tA0) :
  Ev (model prog w) A env h (.Call (.Name (oS "str") pA) [eB] [] pos) (IsS (intStr n)) := by
 refine Ev.callT (f := "str") (RL := fun vs => ∃ v, vs = [v] /\ IsI n v) (Ev.built G (gstr _) (by rfl) (by decide) hg hbl hk hx) (EvL.one he hs) (fun s Q E vs hh hvs hq => ?_) hs hn hc
 obtain ⟨v, rfl, t, rfl⟩ := hvs
 exact P.str_of_int (shown (N := 1000000000) (by omega) (by omega) (by decide +kernel)) (hq _ _ ⟨_, rfl⟩)
theorem Ev.dItem {d : Addr} {o : Obj} {D : FD} {kx : Str} {T news : List (Addr × Obj)} {xv : FV} (N : News hZ L h news) (hm : (d, o) ∈ news) (h1 : Ev (model prog w) A env h eAZ (· = .ref d)) (h2 : Ev (model prog w) A env h eB (IsS kx)) (hD : DictIs prog w T d o D) (hl : dAt D kx = some xv)
  (hs : autoParam (∀ u, subscripted eB false (.ref d) (.str kx u) = operate [.ref d, .str kx u] (getItem (.ref d) (.str kx u))) tA4) (hg : autoParam (∀ r, letTemporaryGo eAZ (.ref d) r = pure ()) tA4) :
  Ev (model prog w) A env h (.Subscript eAZ eB pos) (fun v => VIn T v xv) :=
 h1.sub1 h2 fun s Q E u z hh hu hz hq => by
  obtain rfl := hu
  obtain ⟨tk, rfl⟩ := hz
  subst hh
  exact d_item N hm hD hl (fun v hv => hq v _ hv) (hs tk) hg
theorem Ev.dItemI {d : Addr} {o : Obj} {D : FD} {kx : Str} {T news : List (Addr × Obj)} {n : Int} (N : News hZ L h news) (hm : (d, o) ∈ news) (h1 : Ev (model prog w) A env h eAZ (· = .ref d)) (h2 : Ev (model prog w) A env h eB (IsS kx)) (hD : DictIs prog w T d o D) (hl : dAt D kx = some (.int n))
  (hs : autoParam (∀ u, subscripted eB false (.ref d) (.str kx u) = operate [.ref d, .str kx u] (getItem (.ref d) (.str kx u))) tA4) (hg : autoParam (∀ r, letTemporaryGo eAZ (.ref d) r = pure ()) tA4) :
  Ev (model prog w) A env h (.Subscript eAZ eB pos) (IsI n) := (Ev.dItem N hm h1 h2 hD hl hs hg).mono fun v hv => by cases hv; exact ⟨_, rfl⟩
end
section
variable {prog : Program} {w : World} {A : Around} {env : Env} {h hZ : Heap} {L : Addr} {m : Str -> Option Value} {news : List (Addr × Obj)} {e eAZ eB : Expr} {es : List Expr} {R RA RB : Value -> Prop} {RN RN' : Value -> List (Addr × Obj) -> Prop} {x y : Str} {pos pA pB pC : Pos} {s : Shared} {Q : Flow -> Shared -> Prop} {E : Value -> Shared -> Prop} {rest body orelse : List Stmt}
theorem EvN.type1 {T : String} (hf : ∀ h, Fr hZ L h m -> News hZ L h news -> Ev (model prog w) A env h eAZ (· = .type T)) (he : EvN (model prog w) A env hZ L m news eB RN)
  (hop : ∀ (s : Shared) (Q E : Value -> Shared -> Prop) v new, RN v new -> (Ap news new) -> Fr hZ L s.heap m -> News hZ L s.heap (new ++ news) ->
   (∀ v' new' h' tk, RN' v' new' -> (Ap news new') -> Fr hZ L h' m -> News hZ L h' (new' ++ news) -> Q v' (St s h' tk)) -> wpAny (model prog w) A (call (.type T) [v]) Q E s)
  (hs : autoParam (starEach [eB] env = (false, eval eB env) :: starEach [] env) tA0) (hn : autoParam (((backTo pos (starEach [] env)).any fun x => x.1) = false) tA0)
  (hc : autoParam (eval (.Call eAZ [eB] [] pos) env = (do let f <- eval eAZ env; callWith pos f [] (backTo pos (starEach [eB] env)) (backToKw pos (keywordEach [] env)))) tA0) : EvN (model prog w) A env hZ L m news (.Call eAZ [eB] [] pos) RN' := fun s Q E F N hq => by
 refine Call_ (hf _ F N s _ E rfl fun v tk hv => ?_) hc
 subst hv
 refine PyProof.Rows.callWith_type1 (spliced_more (he (Tk s tk) _ E F N fun v new h' tk' hv hl F' N' => spliced_none (hop _ _ _ v new hv hl F' N' fun v' new' h'' tk'' hv' hl' F'' N'' => hq v' new' h'' tk'' hv' hl' F'' N'')) hs) hs hn
theorem EvN.tupleOf {ns : List Int} (hf : ∀ h, Fr hZ L h m -> News hZ L h news -> Ev (model prog w) A env h eAZ (· = .type "tuple")) (he : EvN (model prog w) A env hZ L m news eB (fun v new => ∃ (a : Addr) (vs : List Value) (n : Nat), v = .ref a /\ new = [(a, listOf vs.toArray n)] /\ IntsAre vs ns)) (hz : ns.length <= 999)
  (hs : autoParam (starEach [eB] env = (false, eval eB env) :: starEach [] env) tA0) (hn : autoParam (((backTo pos (starEach [] env)).any fun x => x.1) = false) tA0)
  (hc : autoParam (eval (.Call eAZ [eB] [] pos) env = (do let f <- eval eAZ env; callWith pos f [] (backTo pos (starEach [eB] env)) (backToKw pos (keywordEach [] env)))) tA0) :
  EvN (model prog w) A env hZ L m news (.Call eAZ [eB] [] pos) (fun v new => ∃ (b a : Addr) (vs : List Value) (n : Nat), v = .ref b /\ new = [(b, ({ cls := .type "tuple", data := .seq vs.toArray 0 } : Obj)), (a, listOf vs.toArray n)] /\ IntsAre vs ns) := by
 refine EvN.type1 hf he (fun s Q E v new hv hl F N hq => ?_) hs hn hc
 obtain ⟨a, vs, n, rfl, rfl, hi⟩ := hv
 refine kde_tupleOf F N (N.isList (.head _)) (by rw [List.size_toArray, hi.length]; omega) rfl fun D h' F' N' l => hq _ [(D, _), (a, _)] h' s.toks ⟨D, a, vs, n, rfl, rfl, hi⟩ (fun q hq x hx => ?_) F' N'
 rcases zC.mp hx with rfl | hx
 ·exact Nat.ne_of_lt (l q (.tail _ hq))
 ·exact hl q hq x hx
theorem st_itemN {d : Addr} {kx : Str} (hL : env.locals = L) (F : Fr hZ L s.heap m) (N : News hZ L s.heap news) (he : EvN (model prog w) A env hZ L m news e RN)
  (hd : ∀ h, Fr hZ L h m -> Ev (model prog w) A env h eAZ (· = .ref d)) (hk : ∀ h, Fr hZ L h m -> Ev (model prog w) A env h eB (IsS kx))
  (hr : ∀ v new h' tk t, RN v new -> (Ap news new) -> Fr hZ L h' m -> News hZ L h' (new ++ news) -> wpAny (model prog w) A (setItem (.ref d) (.str kx t) v) (fun _ => fun s' => wpAny (model prog w) A (execs rest env) Q E s') E (St s h' tk))
  (hs : autoParam (swapsWith e (some (.Subscript eAZ eB pA)) pos.line env = pure false) tA0) : wpAny (model prog w) A (execs (.Assign [.Subscript eAZ eB pA] e pos :: rest) env) Q E s := by
 refine wpAny_execs_cons (wpAny_Assign_Subscript (he s _ E F N fun v new h' tk hv hl F' N' => hd _ F' _ _ E rfl fun dv tk' hdv => hk _ F' _ _ E rfl fun kv tk'' hkv => ?_) hs)
 obtain rfl := hdv
 obtain ⟨t, rfl⟩ := hkv
 exact hr v new h' tk'' t hv hl F' N'
end
theorem entr {w : World} {f : Addr} {vs : List Value} {kw : List (Str × Value)} {news : List (Addr × Obj)} {Post : Value -> List (Addr × Obj) -> Prop} (D U : Nat)
  {name qual : Str} {params : Arguments} {body : List Stmt} {scope : Scope} {dV kV doc pm cdv ct oc : Value} {an od : Option Addr} {osl : Array (Option Value)} (binds : List (Str × Value))
  (hb : ∀ (A : Around) (g : Heap) (L : Addr) (s : Shared) (m : Str -> Option Value), At w A (envOf qual scope L f cdv) g L D U -> Fr g L s.heap m -> (∀ p ∈ binds, m p.1 = some p.2) -> News g L s.heap news ->
   wpAny (model rW.prog w) A (execs body (envOf qual scope L f cdv)) (Ret g L news s Post) Never s)
  (ho : autoParam ((KK w.params).lookup f = some ⟨oc, od, .func (fnOf name qual params body scope dV kV doc pm an cdv ct), osl⟩) tA3) (hcd : autoParam (codeIn (KK w.params) cdv qual = true) tA3)
  (hbind : autoParam (bindArgs (fnOf name qual params body scope dV kV doc pm an cdv ct) ⟨vs, kw⟩ = pure binds) tA0) (hloc : autoParam ((binds.all fun x => decide (scope.names.lookup x.1 = some .local)) = true) tA0)
  (hn : autoParam (∃ ns, binds.map (·.1) = ns /\ ns.Nodup) tA6) (hco : autoParam (scope.isCoroutine = false) tA0) (hgen : autoParam (scope.isGenerator = false) tA0) (hk : autoParam (scope.kind = .function) tA0) (hcell : autoParam (∀ x ∈ scope.names, x.2 ≠ .cell) tA1) :
  Gives w f (D + 1) (U + 3) vs kw news Post := enter ho hcd hbind hloc hb hn hco hgen hk hcell
noncomputable def sevens (n : Int) : Nat -> List Int
 | 0 => []
 | k + 1 => Int.fmod n 128 :: sevens (Int.fdiv n 128) k
theorem sevens_len : ∀ (c : Nat) (n : Int), (sevens n c).length = c
 | 0, _ => rfl
 | c + 1, n => by rw [sevens, List.length_cons, sevens_len c]
theorem law_sevens (w : World) (news : List (Addr × Obj)) (v : Int) (t : Tok) (c : Nat) (t' : Tok) (hc : c <= 8) :
  Gives w 486 1 3 [.int v t, .int c t'] [] news (fun r new => ∃ (a : Addr) (vs : List Value) (n : Nat), r = .ref a /\ new = [(a, listOf vs.toArray n)] /\ IntsAre vs (sevens v c)) := by
 refine' enter (D := 0) (U := 0) (binds := [(oS "number", .int v t), (oS "count", .int c t')]) ?ho ?hcd ?hbind ?hloc ?hb ⟨_, rfl, ?hn⟩ ?c1 ?c2 ?c3 ?c4
 case ho => k_is
 case hcd => k_is
 case hbind => exact rfl
 case hloc => exact rfl
 case hn => simp only [List.map_cons, List.map_nil]; decide +kernel
 case c1 => rfl
 case c2 => rfl
 case c3 => rfl
 case c4 => decide
 intro A g L s m a F hm N
 have e1 := hm _ (.head _)
 have e2 := hm _ (.tail _ (.head _))
 clear hm
 dsimp only at e1 e2
 refine st_assignN rfl F N (EvN.list (fun h F N => EvL.nil) (by rintro _ rfl; decide)) ?_
 intro y81 y82 h1 tk1 y83 l1 F1 N1
 obtain ⟨d, _, rfl, rfl, rfl⟩ := y83
 have hab : ∀ q ∈ news, q.1 ≠ d := fun q hq => l1 q hq _ (.head _)
 clear F N
 refine st_while (σ := List Value × Nat × List Int × Int) (fun c => (d, listOf c.1.toArray c.2.1) :: news) (fun x m g => g = s.gens /\ IntsAre x.1 x.2.2.1 /\ x.2.2.1.length <= c /\ x.2.2.1 ++ sevens x.2.2.2 (c - x.2.2.1.length) = sevens v c /\
  (∃ t, m (oS "number") = some (.int x.2.2.2 t)) /\ m (oS "count") = some (.int c t') /\ m (oS "parts") = some (.ref d)) (fun x => c - x.2.2.1.length) ([], 0, [], v) F1 N1 ⟨rfl, .nil, Nat.zero_le _, rfl, ⟨t, e1⟩, e2, rfl⟩ ?_ passes_never
 clear e1 e2 F1 N1
 intro y81 m h g y82 F N
 obtain ⟨vs, n, ns, num⟩ := y81
 obtain ⟨rfl, hi, hl, hs, ⟨tn, e1⟩, e2, e3⟩ := y82
 refine ⟨_, EvT.ltI (Ev.len (a.gl.keeps F.keep) (Ev.nm F e3) (N.isList (.head _)) (by rw [hi.length]; omega)) ((Ev.nm F e2).mono fun _ h => ⟨_, h⟩), fun hb tk' => ?_, fun hb tk' => ?_⟩
 ·refine st_append F N (Ev.nm F e3) (Ev.mod ((Ev.nm F e1).mono fun _ h => ⟨_, h⟩) Ev.int) (fun v _ => .head ?_) (.head _) (by rw [List.size_toArray, hi.length]; omega) ?_
  ·exact hab
  ·intro y81 h2 tk2 y82 F2 N2
   obtain ⟨t2, rfl⟩ := y82
   refine st_assign F2 N2 (Ev.fdiv ((Ev.nm F2 e1).mono fun _ h => ⟨_, h⟩) Ev.int) ?_
   intro y81 h3 tk3 y82 F3 N3
   obtain ⟨t3, rfl⟩ := y82
   refine st_nil ⟨(vs ++ [.int (num.fmod 128) t2], n + 1, ns ++ [num.fmod 128], num.fdiv 128), _, h3, _, tk3, rfl, F3, by simpa using N3, ⟨rfl, hi.append (.cons _ _ .nil), ?_, ?_, ⟨t3, rfl⟩, e2, e3⟩, ?_⟩
   all_goals (have hlt : ns.length < c := by have := of_decide_eq_true hb; rw [hi.length] at this; dsimp only at this; omega)
   ·show (ns ++ [num.fmod 128]).length <= c
    rw [List.length_append]; exact hlt
   ·show (ns ++ [num.fmod 128]) ++ sevens (num.fdiv 128) (c - (ns ++ [num.fmod 128]).length) = sevens v c
    rw [<- hs, List.append_assoc]
    congr 1
    have e : c - ns.length = (c - (ns ++ [num.fmod 128]).length) + 1 := by rw [List.length_append]; simp only [List.length_cons, List.length_nil]; omega
    rw [e]; rfl
   ·show c - (ns ++ [num.fmod 128]).length < c - ns.length
    rw [List.length_append]; simp only [List.length_cons, List.length_nil]; omega
 ·refine st_ret (Ev.nm F e3) ?_
  rintro _ tk rfl
  refine ⟨[_], h, tk, m, rfl, F, N, ?_, d, vs, n, rfl, rfl, ?_⟩
  ·intro q hq x hx
   rw [zS.mp hx]; exact hab q hq
  ·have hge : ns.length = c := by have := of_decide_eq_false hb; rw [hi.length] at this; dsimp only at hl this; omega
   dsimp only at hs hi
   rw [hge, Nat.sub_self] at hs
   rw [<- hs]
   simpa [sevens] using hi
theorem law_sevensI (w : World) (news : List (Addr × Obj)) (v c : Int) (h0 : 0 <= c) (h8 : c <= 8) (vs : List Value) (hvs : ∃ x xs, vs = x :: xs /\ IsI v x /\ ∃ y, xs = [y] /\ IsI c y) :
  Gives w 486 1 3 vs [] news (fun r new => ∃ (a : Addr) (vs : List Value) (n : Nat), r = .ref a /\ new = [(a, listOf vs.toArray n)] /\ IntsAre vs (sevens v c.toNat)) := by
 obtain ⟨n, rfl⟩ := Int.eq_ofNat_of_zero_le h0
 obtain ⟨_, _, rfl, ⟨t, rfl⟩, _, rfl, t', rfl⟩ := hvs
 exact law_sevens w news v t n t' (by omega)
noncomputable def lval (first key : Str) (two three : Int) : FV :=
 if (key == oS "pitch") = true then .int (Int.fmod two 16384 - 8192)
 else if (key == oS "pos") = true then .int (Int.fmod two 16384)
 else if (key == oS "frame_type") = true then .int (Int.fmod two 8)
 else if (key == oS "frame_value") = true then .int (Int.fmod three 16)
 else if (key == oS "data") = true then .tup (sevens two (Int.fmod three 9).toNat)
 else if (key == first) = true then .int (Int.fmod two 128)
 else .int (Int.fmod three 128)
noncomputable def lchan (k : Nat) (one : Int) : FD := if kchan k = true then [(oS "channel", .int (Int.fmod one 16))] else []
noncomputable def lkeys (k : Nat) (two three : Int) : FD := (kkeys k).map fun key => (key, lval ((kkeys k).headD (oS "")) key two three)
noncomputable def lvalues (k : Nat) (one two three : Int) : FD := lchan k one ++ lkeys k two three
theorem strs_get {l : List Value} {ks : List Str} (h : StrsAre l ks) : ∀ {i : Nat} {v : Value}, l[i]? = some v -> ∃ (key : Str) (t : Tok), v = .str key t /\ ks[i]? = some key := by
 induction h with
 | nil => intro i v h; simp at h
 | cons y t _ ih =>
  intro i v h
  cases i with
  | zero => exact ⟨y, t, (Option.some.inj h).symm, rfl⟩
  | succ i => exact ih h
theorem strs_len {l : List Value} {ks : List Str} (h : StrsAre l ks) : l.length = ks.length := by
 induction h with
 | nil => rfl
 | cons _ _ _ ih => simp [ih]
theorem lchan_len (k : Nat) (one : Int) : (lchan k one).length <= 1 := by unfold lchan; split <;> simp
theorem kkeys_facts {k : Nat} (hk : k < 18) : (kkeys k).length <= 2 /\ (oS "channel" :: kkeys k).Nodup := by
 refine lt18 (p := fun k => (kkeys k).length <= 2 /\ (oS "channel" :: kkeys k).Nodup) ⟨?_, ?_, ?_, ?_, ?_, ?_, ?_, ?_, ?_, ?_, ?_, ?_, ?_, ?_, ?_, ?_, ?_, ?_⟩ hk
 all_goals decide +kernel
theorem take_new {l : List Str} (hn : l.Nodup) {i : Nat} {key : Str} (h : l[i]? = some key) : key ∉ l.take i := by
 obtain ⟨hi, rfl⟩ := List.getElem?_eq_some_iff.mp h
 rw [<- List.take_append_drop i l, List.drop_eq_getElem_cons hi] at hn
 intro hm
 exact (List.nodup_append.mp hn).2.2 _ hm _ (.head _) rfl
theorem lk_fst (k : Nat) (two three : Int) (i : Nat) : ((lkeys k two three).take i).map (·.1) = (kkeys k).take i := by
 unfold lkeys
 rw [<- List.map_take, List.map_map]
 simp [Function.comp_def]
theorem lv_put {k : Nat} (hk : k < 18) (one two three : Int) {i : Nat} {key : Str} (h : (kkeys k)[i]? = some key) :
  dPut (lchan k one ++ (lkeys k two three).take i) key (lval ((kkeys k).headD (oS "")) key two three) = lchan k one ++ (lkeys k two three).take (i + 1) := by
 obtain ⟨_, hn⟩ := kkeys_facts hk
 rw [dPut_new]
 ·rw [List.append_assoc, List.take_add_one]
  congr 2
  simp [lkeys, h]
 ·rw [List.map_append, lk_fst]
  intro hm
  rcases zA.mp hm with q | q
  ·have hc : key = oS "channel" := by
    unfold lchan at q
    split at q
    ·simpa using q
    ·simp at q
   rw [hc] at h
   exact (List.nodup_cons.mp hn).1 (List.mem_of_getElem? h)
  ·exact take_new (List.nodup_cons.mp hn).2 h q
theorem lv_len {k : Nat} (hk : k < 18) (one two three : Int) (i : Nat) : (lchan k one ++ (lkeys k two three).take i).length <= 99 := by
 have h1 := lchan_len k one
 have h2 := (kkeys_facts hk).1
 rw [List.length_append, List.length_take, lkeys, List.length_map]
 omega
noncomputable def ValLed (d : Addr) (c : Obj × List (Addr × Obj)) : List (Addr × Obj) := (d, c.1) :: c.2
noncomputable def ValInv (w : World) (k : Nat) (one two three : Int) (t2 t3 : Tok) (d : Addr) (news : List (Addr × Obj)) (gs : Array GenState) (i : Nat) (c : Obj × List (Addr × Obj)) (m : Str -> Option Value) (g : Array GenState) : Prop :=
 g = gs /\ DictIs rW.prog w c.2 d c.1 (lchan k one ++ (lkeys k two three).take i) /\ (∀ p ∈ c.2, plainO p.2 /\ p.1 ≠ d /\ ∀ q ∈ news, q.1 ≠ p.1) /\
    m (oS "row") = some (.ref (444 + 2 * k)) /\ m (oS "two") = some (.int two t2) /\ m (oS "three") = some (.int three t3) /\ m (oS "values") = some (.ref d)
theorem law_values (w : World) (news : List (Addr × Obj)) (k : Nat) (hk : k < 18) (one two three : Int) (t1 t2 t3 : Tok) :
  Gives w 493 2 6 [.ref (444 + 2 * k), .int one t1, .int two t2, .int three t3] [] news (fun r new => ∃ (a : Addr) (o : Obj) (T : List (Addr × Obj)), r = .ref a /\ new = (a, o) :: T /\ DictIs rW.prog w T a o (lvalues k one two three)) := by
 refine' enter (D := 1) (U := 3) (binds := [(oS "row", .ref (444 + 2 * k)), (oS "one", .int one t1), (oS "two", .int two t2), (oS "three", .int three t3)]) ?ho ?hcd ?hbind ?hloc ?hb ⟨_, rfl, ?hn⟩ ?c1 ?c2 ?c3 ?c4
 case ho => k_is
 case hcd => k_is
 case hbind => exact rfl
 case hloc => exact rfl
 case hn => simp only [List.map_cons, List.map_nil]; decide +kernel
 case c1 => rfl
 case c2 => rfl
 case c3 => rfl
 case c4 => decide
 intro A g L s m a F hm N
 have e1 := hm _ (.head _)
 have e2 := hm _ (.tail _ (.head _))
 have e3 := hm _ (.tail _ (.tail _ (.head _)))
 have e4 := hm _ (.tail _ (.tail _ (.tail _ (.head _))))
 clear hm
 dsimp only at e1 e2 e3 e4
 obtain ⟨tr, nr, ur, hrow⟩ := row_lk w.params hk
 obtain ⟨l, hlk, hks⟩ := keys_lk w.params hk
 have trow : ∀ h m, Fr g L h m -> IsTup h (444 + 2 * k) _ := fun h m F => tupK (a.K.keeps F.keep) hrow
 refine st_assignN rfl F N (EvN.dict a) ?_
 intro y81 y82 h1 tk1 y83
 apply ab4 y81 y82 h1 tk1; intro T9 e9
 obtain ⟨d, o1, hd, rfl, rfl⟩ := y83
 subst e9
 intro l1 F1 N1
 have hab : ∀ q ∈ news, q.1 ≠ d := fun q hq => l1 q hq _ (.head _)
 clear F N l1
 refine join_J (fun sB => ∃ h m o tk, sB = (St s h tk) /\ Fr g L h m /\ News g L h ((d, o) :: news) /\ DictIs rW.prog w [] d o (lchan k one) /\
  m (oS "row") = some (.ref (444 + 2 * k)) /\ m (oS "two") = some (.int two t2) /\ m (oS "three") = some (.int three t3) /\ m (oS "values") = some (.ref d)) ?_ ?_
 ·refine wpAny_If (EvT.run (EvT.bool (Ev.tupI (j := 2) (Ev.nm F1 e1) Ev.int (trow _ _ F1) rfl)) fun tk => ?_)
  split
  ·rename_i hc
   refine st_itemI F1 N1 (Ev.mod (Ev.nmI F1 e2) Ev.int) (Ev.nm F1 rfl) Ev.str (.head ?_) (hd []) (by decide) ?_
   ·exact hab
   ·intro h' o' tk' F' N' hd'
    exact st_nil ⟨rfl, h', _, o', tk', rfl, F', N', by rw [lchan, if_pos hc]; exact hd', e1, e3, e4, rfl⟩
  ·rename_i hc
   exact st_nil ⟨rfl, h1, _, o1, tk, rfl, F1, N1, by rw [lchan, if_neg hc]; exact hd [], e1, e3, e4, rfl⟩
 ·clear e1 e2 e3 e4 F1 N1 hd
  rintro sB ⟨h, m1, o1, tk, rfl, F1, N1, hd1, e1, e2, e3, e4⟩
  refine st_for (σ := Obj × List (Addr × Obj)) false (Ev.tupI (j := 3) (Ev.nm F1 e1) Ev.int (trow _ _ F1) rfl) a.hh (ValLed d) (ValInv w k one two three t2 t3 d news s.gens)
   (o1, []) [d] news rfl rfl F1 N1 ?_ ?_ (.inl (a.K _ _ hlk)) ⟨rfl, by simpa using hd1, fun p hp => (nomatch hp), e1, e2, e3, e4⟩ ?_ ?_ ?_ passes_never
  ·intro q hq hq'; rw [zS] at hq'; exact hab q hq hq'
  ·intro a ha; rw [zS.mp ha]; exact ⟨_, .head _⟩
  ·intro i y81 m g y82
   apply ab3 i m g; intro T9 e9
   obtain ⟨o, T⟩ := y81
   obtain ⟨_, hd, hT, _⟩ := y82
   subst e9
   intro p hp
   rcases zC.mp hp with rfl | hp
   ·exact hd.plain
   ·exact (hT p hp).1
  ·clear e1 e2 e3 e4 N1 hd1 F1
   intro i y81 m2 h gs tk rest v hv y82 hr hs F N
   obtain ⟨o2, T2⟩ := y81
   obtain ⟨rfl, hd, hT, e1, e2, e3, e4⟩ := y82
   dsimp only at hd hT
   obtain ⟨key, tky, rfl, hkey⟩ := strs_get hks hv
   have hnew := lv_put hk one two three hkey
   have hlen := lv_len hk one two three i
   have hin : ∀ q ∈ T2 ++ rest, q.1 ≠ d := fun q hq => (zA.mp hq).elim (fun x => (hT _ x).2.1) (fun x e => hr _ x (zS.mpr e))
   have fin : ∀ (x : FV) (h' : Heap) (o' : Obj) (tk' : Nat) (T' R' : List (Addr × Obj)), Fr g L h' (mput m2 (oS "key") (.str key tky)) -> News g L h' ((d, o') :: (T' ++ R')) -> (∀ q ∈ rest, q ∈ R') -> (∀ q ∈ R', q.1 ≠ d) ->
     DictIs rW.prog w T' d o' (dPut (lchan k one ++ (lkeys k two three).take i) key x) -> x = lval ((kkeys k).headD (oS "")) key two three -> (∀ p ∈ T', plainO p.2 /\ p.1 ≠ d /\ ∀ q ∈ news, q.1 ≠ p.1) -> ForEnd g L s (ValLed d) (ValInv w k one two three t2 t3 d news s.gens) [d] i rest (St s h' tk') := by
    intro x h' o' tk' T' R' F' N' hR1 hR2 hd' hx hT'
    subst hx
    rw [hnew] at hd'
    exact ⟨(o', T'), _, h', _, tk', R', rfl, F', N', hR1, fun q hq e => hR2 q hq (zS.mp e), rfl, hd', hT', e1, e2, e3, e4⟩
   have fini : ∀ (n : Int) (h' : Heap) (o' : Obj) (tk' : Nat), Fr g L h' (mput m2 (oS "key") (.str key tky)) -> News g L h' ((d, o') :: (T2 ++ rest)) ->
     DictIs rW.prog w T2 d o' (dPut (lchan k one ++ (lkeys k two three).take i) key (.int n)) -> FV.int n = lval ((kkeys k).headD (oS "")) key two three -> ForEnd g L s (ValLed d) (ValInv w k one two three t2 t3 d news s.gens) [d] i rest (St s h' tk') :=
    fun n h' o' tk' F' N' hd' hx => fin _ h' o' tk' T2 rest F' N' (fun _ => id) (fun q hq => hin q (zR _ hq)) hd' hx hT
   refine st_if1 (EvT.eqS (Ev.nmS F rfl) Ev.str) (fun tk b0 => ?_) (fun tk b0 => ?_)
   ·exact st_itemI F N (Ev.sub (Ev.mod (Ev.nmI F e2) Ev.int) Ev.int) (Ev.nm F e4) (Ev.nmS F rfl) (.head hin) hd hlen fun h' o' tk' F' N' hd' => st_nil (fini _ h' o' tk' F' N' hd' (by rw [lval, if_pos b0]))
   refine st_if1 (EvT.eqS (Ev.nmS F rfl) Ev.str) (fun tk b1 => ?_) (fun tk b1 => ?_)
   ·exact st_itemI F N (Ev.mod (Ev.nmI F e2) Ev.int) (Ev.nm F e4) (Ev.nmS F rfl) (.head hin) hd hlen fun h' o' tk' F' N' hd' => st_nil (fini _ h' o' tk' F' N' hd' (by rw [lval, if_neg (ne_true_of_eq_false b0), if_pos b1]))
   refine st_if1 (EvT.eqS (Ev.nmS F rfl) Ev.str) (fun tk b2 => ?_) (fun tk b2 => ?_)
   ·exact st_itemI F N (Ev.mod (Ev.nmI F e2) Ev.int) (Ev.nm F e4) (Ev.nmS F rfl) (.head hin) hd hlen fun h' o' tk' F' N' hd' => st_nil (fini _ h' o' tk' F' N' hd' (by rw [lval, if_neg (ne_true_of_eq_false b0), if_neg (ne_true_of_eq_false b1), if_pos b2]))
   refine st_if1 (EvT.eqS (Ev.nmS F rfl) Ev.str) (fun tk b3 => ?_) (fun tk b3 => ?_)
   ·exact st_itemI F N (Ev.mod (Ev.nmI F e3) Ev.int) (Ev.nm F e4) (Ev.nmS F rfl) (.head hin) hd hlen fun h' o' tk' F' N' hd' => st_nil (fini _ h' o' tk' F' N' hd' (by rw [lval, if_neg (ne_true_of_eq_false b0), if_neg (ne_true_of_eq_false b1), if_neg (ne_true_of_eq_false b2), if_pos b3]))
   refine st_if1 (EvT.eqS (Ev.nmS F rfl) Ev.str) (fun tk b4 => ?_) (fun tk b4 => ?_)
   ·refine st_itemN rfl F N (EvN.tupleOf (ns := sevens two (three.fmod 9).toNat) (fun h F N => Ev.built (a.gl.keeps F.keep) (by k_is) (by rfl)) (EvN.fn a (fun h F N => Ev.glob (a.gl.keeps F.keep) (by k_is)) (by k_is) (fun h F N => EvL.cons (Ev.nmI F e2) (EvL.one (Ev.mod (Ev.nmI F e3) Ev.int))) (fun vs hvs => ?_)) (by rw [sevens_len]; have := fmod_hi three (n := 9) (by decide); omega)) (fun h F => Ev.nm F e4) (fun h F => Ev.nmS F rfl) ?_
    ·exact law_sevensI w _ two (three.fmod 9) (fmod_lo _ (by decide)) (Int.le_of_lt_add_one (fmod_hi _ (by decide))) vs hvs
    ·intro y81 y82 h' tk' t' y83
     apply ab5 y81 y82 h' tk' t'; intro T9 e9
     obtain ⟨b, c, vs, n, rfl, rfl, hi⟩ := y83
     subst e9
     intro hl F' N'
     have hb := hl (d, o2) (.head _) _ (.head _)
     have hc := hl (d, o2) (.head _) _ (.tail _ (.head _))
     refine d_set_tup (vs := vs) (n := 0) F' N' (.tail (Ne.symm hb) (.tail (Ne.symm hc) (.head hin))) hd hi hlen fun h2 o' F2 N2 hd' => ?_
     refine st_nil (fin _ h2 o' _ ((b, _) :: T2) ((c, listOf vs.toArray n) :: rest) F2 (fun p hp => N2 p ?_) (fun q hq => .tail _ hq) (fun q hq => ?_) hd' (by rw [lval, if_neg (ne_true_of_eq_false b0), if_neg (ne_true_of_eq_false b1), if_neg (ne_true_of_eq_false b2), if_neg (ne_true_of_eq_false b3), if_pos b4]) (fun p hp => ?_))
     ·rcases zC.mp hp with rfl | hp
      ·exact .tail _ (.tail _ (.head _))
      ·rcases zC.mp hp with rfl | hp
       ·exact .head _
       ·rcases zA.mp hp with hp | hp
        ·exact .tail _ (.tail _ (.tail _ (zL _ hp)))
        ·rcases zC.mp hp with rfl | hp
         ·exact .tail _ (.head _)
         ·exact .tail _ (.tail _ (.tail _ (zR _ hp)))
     ·rcases zC.mp hq with rfl | hq
      ·exact Ne.symm hc
      ·exact hin q (zR _ hq)
     ·rcases zC.mp hp with rfl | hp
      ·exact ⟨⟨by show Value.type "tuple" ≠ _; decide, by show Value.type "tuple" ≠ _; decide⟩, Ne.symm hb, fun q hq => hl q (.tail _ (zR _ (hs q hq))) _ (.head _)⟩
      ·exact hT p hp
   obtain ⟨first, t0, hv0, hfirst⟩ : ∃ first t0, l[0]? = some (.str first t0) /\ (kkeys k).headD (oS "") = first := by
    obtain ⟨c, hc⟩ : ∃ c, l[0]? = some c := by cases l with
     | nil => simp at hv
     | cons c _ => exact ⟨c, rfl⟩
    obtain ⟨ky, t, rfl, hh⟩ := strs_get hks hc
    refine ⟨ky, t, hc, ?_⟩
    rw [List.headD_eq_head?_getD, List.head?_eq_getElem?, hh]; rfl
   refine st_if1 (EvT.eqS (Ev.nmS F rfl) (Ev.mono (Ev.lstI (j := 0) (Ev.tupI (j := 3) (Ev.nm F e1) Ev.int (trow _ _ F) rfl) Ev.int (lstK (a.K.keeps F.keep) hlk) hv0) fun _ e => ⟨t0, e⟩)) (fun tk b5 => ?_) (fun tk b5 => ?_)
   ·exact st_itemI F N (Ev.mod (Ev.nmI F e2) Ev.int) (Ev.nm F e4) (Ev.nmS F rfl) (.head hin) hd hlen fun h' o' tk' F' N' hd' => st_nil (fini _ h' o' tk' F' N' hd' (by rw [hfirst, lval, if_neg (ne_true_of_eq_false b0), if_neg (ne_true_of_eq_false b1), if_neg (ne_true_of_eq_false b2), if_neg (ne_true_of_eq_false b3), if_neg (ne_true_of_eq_false b4), if_pos b5]))
   ·exact st_itemI F N (Ev.mod (Ev.nmI F e3) Ev.int) (Ev.nm F e4) (Ev.nmS F rfl) (.head hin) hd hlen fun h' o' tk' F' N' hd' => st_nil (fini _ h' o' tk' F' N' hd' (by rw [hfirst, lval, if_neg (ne_true_of_eq_false b0), if_neg (ne_true_of_eq_false b1), if_neg (ne_true_of_eq_false b2), if_neg (ne_true_of_eq_false b3), if_neg (ne_true_of_eq_false b4), if_neg (ne_true_of_eq_false b5)]))
  ·intro y81 m2 h g tk y82
   apply ab4 m2 h g tk; intro T9 e9
   obtain ⟨o2, T2⟩ := y81
   obtain ⟨rfl, hd, hT, e1, e2, e3, e4⟩ := y82
   subst e9
   intro F N
   dsimp only at hd hT N
   have hall : (lkeys k two three).take l.length = lkeys k two three := List.take_of_length_le (by rw [strs_len hks, lkeys, List.length_map]; exact Nat.le_refl _)
   rw [hall] at hd
   refine st_ret (Ev.nm F e4) ?_
   rintro _ tk rfl
   refine ⟨(d, o2) :: T2, h, tk, m2, rfl, F, N, fun q hq x hx => ?_, d, o2, T2, rfl, rfl, hd⟩
   rcases zC.mp hx with rfl | hx
   ·exact hab q hq
   ·exact (hT x hx).2.2 q hq
section
variable {prog : Program} {w : World} {A : Around} {env : Env} {h hZ : Heap} {L : Addr} {m : Str -> Option Value} {news : List (Addr × Obj)} {e eAZ eB : Expr} {es : List Expr} {R RA RB : Value -> Prop} {RN RN' : Value -> List (Addr × Obj) -> Prop} {x y : Str} {pos pA pB pC : Pos} {s : Shared} {Q : Flow -> Shared -> Prop} {E : Value -> Shared -> Prop} {rest body orelse : List Stmt}
theorem EvN.comp {elt iter : Expr} {px : Pos} {scope : Scope} {l : Addr} {items : List Value} {FV' : Value -> Value -> Prop} {D U : Nat} (a : At w A env hZ L D U)
  (hit : ∀ h, Fr hZ L h m -> News hZ L h news -> Ev (model prog w) A env h iter (· = .ref l)) (hl : ∀ h, Fr hZ L h m -> News hZ L h news -> h.IsTuple l items.toArray) (hz : items.length <= 999)
  (helt : ∀ h C mCZ v, v ∈ items -> Gl w h -> h.Ns C mCZ -> mCZ x = some v -> Ev (model prog w) A (compEnv scope C env) h elt (FV' v))
  (hfree : autoParam (∀ y ∈ scope.names, y.2 ≠ .free) tA1) (hcell : autoParam (∀ y ∈ scope.names, y.2 ≠ .cell) tA1) (hkind : autoParam (scope.kind = .function) tA0)
  (hnames : autoParam (∀ y ∈ scope.names, y.2 = .local -> scope.names.lookup y.1 = some .local) tA1) (hx : autoParam (scope.names.lookup x = some .local) tA0) (hs : autoParam (∀ x, foldedSetIterable iter env x = pure x) tA2) :
  EvN (model prog w) A env hZ L m news (.ListComp elt [⟨.Name x px, iter, [], 0⟩] scope pos) (fun v new => ∃ (D : Addr) (ys : List Value) (n : Nat), v = .ref D /\ new = [(D, listOf ys.toArray n)] /\ Paired FV' items ys) := fun s Q E F N hq => by
 refine wpAny_ListComp_walk (fun _ => true) FV' hfree hcell hkind hnames hx (hit _ F N s _ E rfl fun v tk hv => ?_) hs
 subst hv
 have hlt : l < s.heap.objs.size := by obtain ⟨_, e, _⟩ := hl _ F N; exact Heap.lt_size e
 have hsz : items.toArray.size = items.length := List.size_toArray
 refine wpAny_pyIter_tuple (s := (Tk s tk)) (hl _ F N) ?_
 have up : ∀ (o : Obj) b o', s.heap.get? b = some o' -> (s.heap.push o).get? b = some o' := fun o b o' e => Heap.get?_push_of_some _ e
 refine ⟨_, _, _, _, _, _, rfl, Walks.tuple a.hh s.heap.objs.size l (Nat.ne_of_lt hlt) items.toArray, by rw [hsz, sizeLine_eq]; omega, ⟨⟨_, Heap.get?_push_size _ rfl, rfl, rfl⟩, ?_⟩, ?_, ⟨?_, ?_⟩, ?_⟩
 ·obtain ⟨o, e, r⟩ := hl _ F N
  exact ⟨o, up _ _ _ e, r⟩
 ·intro b hb
  show b < (s.heap.push _).objs.size
  rw [Heap.size_push]
  rcases zC.mp hb with rfl | hb
  ·exact Nat.lt_succ_self _
  ·rw [zS.mp hb]; exact Nat.lt_succ_of_lt hlt
 ·intro C i v sC mCZ E' _ _ _ _ _
  rw [List.forIn_nil]
  exact wpAny_pure ⟨rfl, sC.heap, sC.toks, rfl, fun _ _ e => e⟩
 ·intro C i v sC mCZ E' hP _ hns hmx hk _
  have hG : Gl w sC.heap := a.gl.keeps fun b o e => hk b o (fun hb => by
   rw [zS.mp hb] at e
   have := next_is_new F
   rw [e] at this; cases this) (up _ _ _ (F.keep b o e))
  refine helt sC.heap C mCZ v ?_ hG hns hmx sC _ E' rfl fun z tk' hz' => ⟨hz', sC.heap, tk', rfl, fun _ _ e => e⟩
  exact List.mem_of_getElem? (by simpa using hP)
 ·intro D h' tk' ys vs hD hL' hpl hlen hP hpair hk
  obtain ⟨n, hDg⟩ := hpl
  have hold : ∀ b o, s.heap.get? b = some o -> h'.get? b = some o := fun b o e => hk b o (fun hb => by
   rw [zS.mp hb] at e
   exact absurd (Heap.lt_size e) (Nat.lt_irrefl _)) (up _ _ _ e)
  have hDs : s.heap.get? D = Option.none := by
   cases e : s.heap.get? D with
   | none => rfl
   | some o => have := up { cls := .type "tuple_iterator", data := .fields #[.ref l, .int 0 0] } _ _ e; rw [show _ = _ from hD] at this; cases this
  have hv : vs = items := by
   refine List.ext_getElem? fun j => ?_
   rcases Nat.lt_or_ge j vs.length with hj | hj
   ·have := hP j vs[j] (List.getElem?_eq_getElem hj)
    rw [List.getElem?_eq_getElem hj]
    simpa using this.symm
   ·rw [List.getElem?_eq_none hj, List.getElem?_eq_none (by rw [hlen, hsz] at hj; exact hj)]
  subst hv
  rw [List.filter_eq_self.mpr (fun _ _ => rfl)] at hpair
  refine hq _ [(D, listOf ys.toList.toArray n)] h' tk' ⟨D, ys.toList, n, rfl, rfl, hpair⟩ (fun q hq x hx => ?_) (F.keeps hold) (fun p hp => ?_)
  ·rw [zS.mp hx]
   intro e
   have := (N q hq).1
   rw [e, hDs] at this; cases this
  ·rcases zC.mp hp with rfl | hp
   ·refine ⟨by rw [Array.toArray_toList]; exact hDg, fun e => ?_, ?_⟩
    ·obtain ⟨oL, _, _, hoL, _⟩ := F.ns
     rw [show D = L from e, hoL] at hDs; cases hDs
    ·cases e : hZ.get? D with
     | none => rfl
     | some o => rw [F.keep _ _ e] at hDs; cases hDs
   ·exact ⟨hold _ _ (N p hp).1, (N p hp).2⟩
end
theorem strs_vals {ys : List Value} {ws : List Str} (h : StrsAre ys ws) : ∃ l : List (Str × Tok), ys = strValues l /\ l.map (·.1) = ws := by
 induction h with
 | nil => exact ⟨[], rfl, rfl⟩
 | cons y t _ ih =>
  obtain ⟨l, rfl, rfl⟩ := ih
  exact ⟨(y, t) :: l, rfl, rfl⟩
section
variable {prog : Program} {w : World} {A : Around} {env : Env} {h hZ : Heap} {L : Addr} {m : Str -> Option Value} {news : List (Addr × Obj)} {e eAZ eB : Expr} {es : List Expr} {R RA RB : Value -> Prop} {RN RN' : Value -> List (Addr × Obj) -> Prop} {x y : Str} {pos pA pB pC : Pos} {s : Shared} {Q : Flow -> Shared -> Prop} {E : Value -> Shared -> Prop} {rest body orelse : List Stmt}
theorem EvN.join {pl : Sem Bool} {sep : Str} {ws : List Str} (ho : ∀ h, Fr hZ L h m -> News hZ L h news -> Ev (model prog w) A env h eAZ (IsS sep))
  (he : EvN (model prog w) A env hZ L m news eB (fun v new => ∃ (D : Addr) (ys : List Value) (n : Nat) (new' : List (Addr × Obj)), v = .ref D /\ new = (D, listOf ys.toArray n) :: new' /\ StrsAre ys ws)) (hok : JoinOk sep ws = true)
  (hs : autoParam (starEach [eB] env = (false, eval eB env) :: starEach [] env) tA0) (hnn : autoParam (((backTo pB (starEach [] env)).any fun x => x.1) = false) tA0)
  (hc : autoParam (eval (.Call (.Attribute eAZ (oS "join") pA) [eB] [] pB) env = (do
   let ov <- eval eAZ env
   standAt pA.atName
   let (f, first) <- holding [ov] (getMethod ov (oS "join") pl)
   callWith pB f first (backTo pB (starEach [eB] env)) [])) tA0) : EvN (model prog w) A env hZ L m news (.Call (.Attribute eAZ (oS "join") pA) [eB] [] pB) (fun v _ => IsS (Txt.join sep ws) v) := fun s Q E F N hq => by
 refine MethodCall_ (ho _ F N s _ E rfl fun v tk hv => ?_) hc
 obtain ⟨t, rfl⟩ := hv
 refine GM.join ?_
 refine PyProof.Rows.callWith_method1 (spliced_more (he (Tk s tk) _ E F N fun v new h' tk' hv hl F' N' => spliced_none ?_) hs) hs hnn
 obtain ⟨D, ys, n, new', rfl, rfl, hst⟩ := hv
 obtain ⟨l, rfl, hw⟩ := strs_vals hst
 refine SC.join (l := l) ⟨_, (N' _ (.head _)).1, rfl, n, rfl⟩ hw hok fun t' k => hq _ _ h' k ⟨t', rfl⟩ hl F' N'
end
noncomputable def HasAt (prog : Program) (w : World) (o : Obj) (k : Str) (v : Value) : Prop := ∃ kvs, o.IsDictOf (strKind prog w) kvs /\ valueAt kvs k = some v
theorem DictIs.has {prog : Program} {w : World} {T : List (Addr × Obj)} {d : Addr} {o : Obj} {D : FD} {k : Str} {x : FV} (hD : DictIs prog w T d o D) (hl : dAt D k = some x) : ∃ v, HasAt prog w o k v /\ VIn T v x := by
 obtain ⟨_, kvs, hd, hf⟩ := hD
 obtain ⟨v, hv, hi⟩ := hf.at hl
 exact ⟨v, ⟨kvs, hd, hv⟩, hi⟩
noncomputable def TOk (w : World) (T news : List (Addr × Obj)) : Prop := ∀ p ∈ T, p ∈ news ∨ p = (86, o86 w.params)
theorem lk86 (P : Params) : (KK P).lookup 86 = some (o86 P) := by with_unfolding_all rfl
theorem TOk.get {w : World} {A : Around} {env : Env} {h hZ : Heap} {L : Addr} {D U : Nat} {m : Str -> Option Value} {T news : List (Addr × Obj)} (hT : TOk w T news) (a : At w A env hZ L D U) (F : Fr hZ L h m) (N : News hZ L h news) : ∀ p ∈ T, h.get? p.1 = some p.2 := fun p hp => by
 rcases hT p hp with q | rfl
 ·exact (N p q).1
 ·exact F.keep _ _ (a.K _ _ (lk86 _))
theorem TOk.mono {w : World} {T news news' : List (Addr × Obj)} (hT : TOk w T news) (hs : ∀ p ∈ news, p ∈ news') : TOk w T news' := fun p hp => (hT p hp).imp (hs p) id
section
variable {prog : Program} {w : World} {A : Around} {env : Env} {h hZ : Heap} {L : Addr} {m : Str -> Option Value} {news : List (Addr × Obj)} {e eAZ eB : Expr} {es : List Expr} {R RA RB : Value -> Prop} {RN RN' : Value -> List (Addr × Obj) -> Prop} {x y : Str} {pos pA pB pC : Pos} {s : Shared} {Q : Flow -> Shared -> Prop} {E : Value -> Shared -> Prop} {rest body orelse : List Stmt}
theorem Ev.dItemV {d : Addr} {o : Obj} {kx : Str} {v : Value} (N : News hZ L h news) (hm : (d, o) ∈ news) (h1 : Ev (model prog w) A env h eAZ (· = .ref d)) (h2 : Ev (model prog w) A env h eB (IsS kx)) (hv : HasAt prog w o kx v)
  (hs : autoParam (∀ u, subscripted eB false (.ref d) (.str kx u) = operate [.ref d, .str kx u] (getItem (.ref d) (.str kx u))) tA4) (hg : autoParam (∀ r, letTemporaryGo eAZ (.ref d) r = pure ()) tA4) :
  Ev (model prog w) A env h (.Subscript eAZ eB pos) (· = v) :=
 h1.sub1 h2 fun s Q E u z hh hu hz hq => by
  obtain rfl := hu
  obtain ⟨tk, rfl⟩ := hz
  subst hh
  obtain ⟨kvs, hd, hv⟩ := hv
  exact kda_item N hm hd (strKind_is _ _ _ _) hv (hq v _ rfl) (hs tk) hg
theorem EvN.mono {M : Model} (h1 : EvN M A env hZ L m news e RN) (hr : ∀ v new, RN v new -> RN' v new) : EvN M A env hZ L m news e RN' := fun s Q E F N hq => h1 s Q E F N fun v new h' tk hv => hq v new h' tk (hr v new hv)
theorem EvN.saddR (h1 : ∀ h, Fr hZ L h m -> News hZ L h news -> Ev (model prog w) A env h eAZ (IsS x)) (h2 : EvN (model prog w) A env hZ L m news eB (fun v _ => IsS y v)) (hz : x.length + y.length <= 9999999) :
  EvN (model prog w) A env hZ L m news (.BinOp eAZ .Add eB pos) (fun v _ => IsS (x ++ y) v) := fun s Q E F N hq => by
 refine wpAny_BinOp (h1 _ F N s _ E rfl fun u tk hu => h2 (Tk s tk) _ E F N fun v new h' tk' hv hl F' N' => ?_)
 obtain ⟨_, rfl⟩ := hu
 obtain ⟨_, rfl⟩ := hv
 exact SBL.add (hsz := by rw [sizeLine_eq]; omega) fun t k _ => hq _ new h' k ⟨_, rfl⟩ hl F' N'
theorem EvN.saddL (h1 : EvN (model prog w) A env hZ L m news eAZ (fun v _ => IsS x v)) (h2 : ∀ h, Fr hZ L h m -> Ev (model prog w) A env h eB (IsS y)) (hz : x.length + y.length <= 9999999) :
  EvN (model prog w) A env hZ L m news (.BinOp eAZ .Add eB pos) (fun v _ => IsS (x ++ y) v) := fun s Q E F N hq => by
 refine wpAny_BinOp (h1 s _ E F N fun v new h' tk' hv hl F' N' => h2 _ F' (St s h' tk') _ E rfl fun u tk hu => ?_)
 obtain ⟨_, rfl⟩ := hu
 obtain ⟨_, rfl⟩ := hv
 exact SBL.add (hsz := by rw [sizeLine_eq]; omega) fun t k _ => hq _ new h' k ⟨_, rfl⟩ hl F' N'
theorem upd_append {l : Addr} {o o' : Obj} {news' : List (Addr × Obj)} (U : Upd l o o' news news') : ∀ {new : List (Addr × Obj)}, (∀ x ∈ new, x.1 ≠ l) -> Upd l o o' (new ++ news) (new ++ news')
 | [], _ => U
 | _ :: _, h => .tail (h _ (.head _)) (upd_append U fun x hx => h x (.tail _ hx))
theorem st_appendN {pl : Sem Bool} {l : Addr} {its : Array Value} {n : Nat} {news' : Value -> List (Addr × Obj)} (hL : env.locals = L) (F : Fr hZ L s.heap m) (N : News hZ L s.heap news) (ho : Ev (model prog w) A env s.heap eAZ (· = .ref l)) (he : EvN (model prog w) A env hZ L m news e RN)
  (U : ∀ v, Upd l (listOf its n) (listOf (its.push v) (n + 1)) news (news' v)) (hm : (l, listOf its n) ∈ news) (hz : its.size <= 999999)
  (hr : ∀ v new h' tk, RN v new -> (Ap news new) -> Fr hZ L h' m -> News hZ L h' (new ++ news' v) -> wpAny (model prog w) A (execs rest env) Q E (St s h' tk))
  (hs : autoParam (starEach [e] env = (false, eval e env) :: starEach [] env) tA0) (hnn : autoParam (((backTo pB (starEach [] env)).any fun x => x.1) = false) tA0) (hi : autoParam (interactive env = false) tA0) (hsw : autoParam (swapsWith (.Call (.Attribute eAZ (oS "append") pA) [e] [] pB) none pos.line env = pure false) tA0)
  (hc : autoParam (eval (.Call (.Attribute eAZ (oS "append") pA) [e] [] pB) env = (do
   let ov <- eval eAZ env
   standAt pA.atName
   let (f, first) <- holding [ov] (getMethod ov (oS "append") pl)
   callWith pB f first (backTo pB (starEach [e] env)) [])) tA0) : wpAny (model prog w) A (execs (.Expr (.Call (.Attribute eAZ (oS "append") pA) [e] [] pB) pos :: rest) env) Q E s := by
 subst hL
 refine wpAny_execs_cons (wpAny_Expr_any ?_ hi hsw)
 refine MethodCall_ (ho s _ E rfl fun v tk hv => ?_) hc
 subst hv
 refine listMethod_K N hm PySem.F.slot_list_append PySem.F.type_list_append ?_
 refine PyProof.Rows.callWith_method1 (spliced_more (he (Tk s tk) _ E F N fun v new h' tk' hv hl F' N' => spliced_none ?_) hs) hs hnn
 exact append_K F' N' (upd_append (U v) fun x hx => Ne.symm (hl _ hm x hx)) (fun h2 F2 N2 => hr v new h2 tk' hv hl F2 N2) (by rw [sizeLine_eq]; omega)
end
section
variable {prog : Program} {w : World} {A : Around} {env : Env} {h hZ : Heap} {L : Addr} {m : Str -> Option Value} {news : List (Addr × Obj)} {e eAZ eB : Expr} {es : List Expr} {R RA RB : Value -> Prop} {RN RN' : Value -> List (Addr × Obj) -> Prop} {x y : Str} {pos pA pB pC : Pos} {s : Shared} {Q : Flow -> Shared -> Prop} {E : Value -> Shared -> Prop} {rest body orelse : List Stmt}
theorem EvN.dict2 {k1 k2 : Str} {c1 c2 : Nat} {v1 v2 : FV} {D U : Nat} (a : At w A env hZ L D U) (hne : k1 ≠ k2) (h1 : ∀ h, Fr hZ L h m -> News hZ L h news -> Ev (model prog w) A env h eAZ (fun v => VIn [] v v1)) (h2 : ∀ h, Fr hZ L h m -> News hZ L h news -> Ev (model prog w) A env h eB (fun v => VIn [] v v2)) :
  EvN (model prog w) A env hZ L m news (.Dict [some (.Constant (.str k1) c1 pA), some (.Constant (.str k2) c2 pB)] [eAZ, eB] pos) (fun v new => ∃ d o, (∀ T, DictIs prog w T d o [(k1, v1), (k2, v2)]) /\ v = .ref d /\ new = [(d, o)]) := fun s Q E F N hq => by
 obtain ⟨p, loose, mean, mg, mb, A₀, base, outer, B, T, hA⟩ := a.ex
 have hbig := modules_low T.nolimit
 refine Dict_made_str rfl F rfl rfl (by simp) (by simp) fun F' => ?_
 have N' := News.push F N { cls := .type "dict", data := .dict #[] }
 have N0 : News hZ L (s.heap.push { cls := .type "dict", data := .dict #[] }) news := fun p hp => N' p (.tail _ hp)
 refine evalPairs_cons (Ev.str _ _ E rfl fun kv tk hkv => wpAny_bind (h1 _ F' N0 _ _ E rfl fun x1 tk1 hx1 => wpAny_bind (wpAny_standAt (wpAny_pure ?_))))
 refine evalPairs_cons (Ev.str _ _ E rfl fun kv2 tk2 hkv2 => wpAny_bind (h2 _ F' N0 _ _ E rfl fun x2 tk3 hx2 => wpAny_bind (wpAny_standAt (wpAny_pure ?_))))
 refine evalPairs_nil ?_
 obtain ⟨t1, rfl⟩ := hkv
 obtain ⟨t2, rfl⟩ := hkv2
 refine made_str (prog := prog) (w := w) F N rfl ?_ fun h' o F2 N2 hd => hq _ [(s.heap.objs.size, o)] h' _ ⟨_, o, fun T => ⟨F.notModules hbig, _, hd, .cons (hx1.mono fun _ h => absurd h List.not_mem_nil) (.cons (hx2.mono fun _ h => absurd h List.not_mem_nil) .nil)⟩, rfl, rfl⟩ (above_size F N) F2 N2
 show [k1, k2].Nodup
 simp [hne]
end
theorem join_one (sep x : Str) : Txt.join sep [x] = x := rfl
theorem glue_append (sep : Str) (ws : List Str) (a b : Array Nat) : ws.foldl (fun acc p => acc ++ sep.cps ++ p.cps) (a ++ b) = a ++ ws.foldl (fun acc p => acc ++ sep.cps ++ p.cps) b := by
 induction ws generalizing b with
 | nil => rfl
 | cons x ws ih => rw [List.foldl_cons, List.foldl_cons, <- ih, Array.append_assoc, Array.append_assoc, Array.append_assoc]
theorem join_cons (sep x y : Str) (ws : List Str) : Txt.join sep (x :: y :: ws) = x ++ (sep ++ Txt.join sep (y :: ws)) := by
 show (⟨(y :: ws).foldl (fun acc p => acc ++ sep.cps ++ p.cps) x.cps⟩ : Str) = ⟨x.cps ++ (sep.cps ++ ws.foldl (fun acc p => acc ++ sep.cps ++ p.cps) y.cps)⟩
 rw [List.foldl_cons, Array.append_assoc, glue_append, glue_append]
theorem len_append (a b : Str) : (a ++ b).length = a.length + b.length := by
 show (a.cps ++ b.cps).size = _
 rw [Array.size_append]; rfl
theorem intStr_len {n : Int} (h : Small n) : (intStr n).length <= 10 := by
 rw [PySem.ofString_length]
 exact int_text_length_le10 (k := 9) (by decide) (by omega)
theorem join_len {sep : Str} {c : Nat} {ws : List Str} (h : ∀ x ∈ ws, x.length <= c) : (Txt.join sep ws).length <= ws.length * (c + sep.length) := by
 induction ws with
 | nil => exact Nat.zero_le _
 | cons x ws ih =>
  have h1 := h x (.head _)
  rw [List.length_cons, Nat.succ_mul]
  cases ws with
  | nil => rw [join_one]; exact Nat.le_trans h1 (Nat.le_trans (Nat.le_add_right _ _) (Nat.le_add_left _ _))
  | cons y ws =>
   rw [join_cons, len_append, len_append]
   exact Nat.le_trans (Nat.le_of_eq ((Nat.add_assoc _ _ _).symm.trans (Nat.add_comm _ _))) (Nat.add_le_add (ih fun z hz => h z (.tail _ hz)) (Nat.add_le_add_right h1 _))
theorem joinOk {sep : Str} {ws : List Str} {c : Nat} (h : ∀ x ∈ ws, x.length <= c) (hz : ws.length * (c + sep.length) <= 9999999) : JoinOk sep ws = true := by
 have key : ∀ (ws : List Str) (n : Nat), (∀ x ∈ ws, x.length <= c) -> ws.foldl (fun x1 x2 => x1 + x2.length + sep.length) n <= n + ws.length * (c + sep.length) := by
  intro ws
  induction ws with
  | nil => intro n _; simp
  | cons x ws ih =>
   intro n h
   rw [List.foldl_cons, List.length_cons, Nat.succ_mul]
   have h1 := h x (.head _)
   have h2 := ih (n + x.length + sep.length) fun z hz => h z (.tail _ hz)
   omega
 unfold JoinOk Builtin.Str.tooLong
 have := key ws 0 h
 simp only [Bool.not_eq_true', decide_eq_false_iff_not, gt_iff_lt, Nat.not_lt]
 rw [sizeLine_eq]
 have e : Array.foldl (fun x1 (x2 : Str) => x1 + x2.length + sep.length) 0 ws.toArray = ws.foldl (fun x1 x2 => x1 + x2.length + sep.length) 0 := by simp
 omega
noncomputable def dInt (D : FD) (key : Str) : Int := match dAt D key with
 | some (.int n) => n
 | _ => 0
noncomputable def dSeq (D : FD) (key : Str) : List Int := match dAt D key with
 | some (.tup ns) => ns
 | _ => []
noncomputable def wordOf (D : FD) (key : Str) : Str :=
 if (key == oS "data") = true then oS "data=(" ++ Txt.join (oS ",") ((dSeq D (oS "data")).map intStr) ++ oS ")"
 else key ++ oS "=" ++ intStr (dInt D key)
noncomputable def chanW (k : Nat) (D : FD) : List Str := if kchan k = true then [oS "channel=" ++ intStr (dInt D (oS "channel"))] else []
noncomputable def lwords (k : Nat) (D : FD) : List Str := chanW k D ++ (kkeys k).map (wordOf D)
structure GoodD (k : Nat) (D : FD) : Prop where
 chan : kchan k = true -> dAt D (oS "channel") = some (.int (dInt D (oS "channel"))) /\ Small (dInt D (oS "channel"))
 int : ∀ key ∈ kkeys k, (key == oS "data") = false -> dAt D key = some (.int (dInt D key)) /\ Small (dInt D key)
 seq : ∀ key ∈ kkeys k, (key == oS "data") = true -> dAt D (oS "data") = some (.tup (dSeq D (oS "data"))) /\ (∀ n ∈ dSeq D (oS "data"), Small n) /\ (dSeq D (oS "data")).length <= 99
theorem key_len {k : Nat} (hk : k < 18) : ∀ key ∈ kkeys k, key.length <= 20 := by
 refine lt18 (p := fun k => ∀ key ∈ kkeys k, key.length <= 20) ⟨?_, ?_, ?_, ?_, ?_, ?_, ?_, ?_, ?_, ?_, ?_, ?_, ?_, ?_, ?_, ?_, ?_, ?_⟩ hk
 all_goals decide +kernel
theorem strs_append {vs us : List Value} {xs ys : List Str} (h : StrsAre vs xs) (h' : StrsAre us ys) : StrsAre (vs ++ us) (xs ++ ys) := by
 induction h with
 | nil => exact h'
 | cons y t _ ih => exact .cons y t ih
theorem ints_strs {F : Value -> Value -> Prop} (hF : ∀ n t v, F (.int n t) v -> IsS (intStr n) v) {us ys : List Value} {ns : List Int} (h : IntsAre us ns) (hp : Paired F us ys) : StrsAre ys (ns.map intStr) := by
 induction h generalizing ys with
 | nil => cases hp; exact .nil
 | cons n t _ ih =>
  cases hp with
  | cons hf hp =>
  obtain ⟨u, rfl⟩ := hF n t _ hf
  exact .cons _ u (ih hp)
theorem ints_mem {us : List Value} {ns : List Int} (h : IntsAre us ns) {v : Value} (hv : v ∈ us) : ∃ n t, v = .int n t /\ n ∈ ns := by
 induction h with
 | nil => cases hv
 | cons n t _ ih =>
  rcases zC.mp hv with e | hv
  ·exact ⟨n, t, e, .head _⟩
  ·obtain ⟨n', t', e, h⟩ := ih hv
   exact ⟨n', t', e, .tail _ h⟩
noncomputable def WordsLed (a : Addr) (c : List Value × Nat) : List (Addr × Obj) := [(a, listOf c.1.toArray c.2)]
noncomputable def WordsInv (k : Nat) (D : FD) (vd a : Addr) (gs : Array GenState) (i : Nat) (c : List Value × Nat) (m : Str -> Option Value) (g : Array GenState) : Prop :=
 g = gs /\ StrsAre c.1 (chanW k D ++ ((kkeys k).map (wordOf D)).take i) /\ m (oS "row") = some (.ref (444 + 2 * k)) /\ m (oS "values") = some (.ref vd) /\ m (oS "words") = some (.ref a)
theorem law_words (w : World) (news : List (Addr × Obj)) {k : Nat} (hk : k < 18) {vd : Addr} {vo : Obj} {D : FD} {T : List (Addr × Obj)} (hm : (vd, vo) ∈ news) (hD : DictIs rW.prog w T vd vo D) (hT : TOk w T news) (hg : GoodD k D) :
  Gives w 498 1 3 [.ref (444 + 2 * k), .ref vd] [] news (fun r new => ∃ (a : Addr) (vs : List Value) (n : Nat), r = .ref a /\ new = [(a, listOf vs.toArray n)] /\ StrsAre vs (lwords k D)) := by
 refine' enter (D := 0) (U := 0) (binds := [(oS "row", .ref (444 + 2 * k)), (oS "values", .ref vd)]) ?ho ?hcd ?hbind ?hloc ?hb ⟨_, rfl, ?hn⟩ ?c1 ?c2 ?c3 ?c4
 case ho => k_is
 case hcd => k_is
 case hbind => exact rfl
 case hloc => exact rfl
 case hn => simp only [List.map_cons, List.map_nil]; decide +kernel
 case c1 => rfl
 case c2 => rfl
 case c3 => rfl
 case c4 => decide
 intro A g L s m a F hm' N
 have e1 := hm' _ (.head _)
 have e2 := hm' _ (.tail _ (.head _))
 clear hm'
 dsimp only at e1 e2
 obtain ⟨tr, nr, ur, hrow⟩ := row_lk w.params hk
 obtain ⟨l, hlk, hks⟩ := keys_lk w.params hk
 have trow : ∀ h m, Fr g L h m -> IsTup h (444 + 2 * k) _ := fun h m F => tupK (a.K.keeps F.keep) hrow
 refine st_assignN rfl F N (EvN.list (fun h F N => EvL.nil) (by rintro _ rfl; decide)) ?_
 intro y81 y82 h1 tk1 y83 l1 F1 N1
 obtain ⟨d, _, rfl, rfl, rfl⟩ := y83
 have hab : ∀ q ∈ news, q.1 ≠ d := fun q hq => l1 q hq _ (.head _)
 clear F N l1
 refine join_J (fun sB => ∃ h m vs n tk, sB = (St s h tk) /\ Fr g L h m /\ News g L h ((d, listOf vs.toArray n) :: news) /\ StrsAre vs (chanW k D) /\
  m (oS "row") = some (.ref (444 + 2 * k)) /\ m (oS "values") = some (.ref vd) /\ m (oS "words") = some (.ref d)) ?_ ?_
 ·refine wpAny_If (EvT.run (EvT.bool (Ev.tupI (j := 2) (Ev.nm F1 e1) Ev.int (trow _ _ F1) rfl)) fun tk => ?_)
  split
  ·rename_i hc
   obtain ⟨hc1, hc2⟩ := hg.chan hc
   refine st_append F1 N1 (Ev.nm F1 rfl) (Ev.sadd Ev.str (Ev.strI (a.gl.keeps F1.keep) (Ev.dItemI N1 (.tail _ hm) (Ev.nm F1 e2) Ev.str hD hc1) hc2) (by have := intStr_len hc2; show (8 : Nat) + _ <= _; omega)) (fun v _ => .head hab) (.head _) (by decide) ?_
   intro y81 h2 tk2 y82 F2 N2
   obtain ⟨t2, rfl⟩ := y82
   exact st_nil ⟨rfl, h2, _, [_], 1, tk2, rfl, F2, N2, by rw [chanW, if_pos hc]; exact .cons _ _ .nil, e1, e2, rfl⟩
  ·rename_i hc
   exact st_nil ⟨rfl, h1, _, [], 0, tk, rfl, F1, N1, by rw [chanW, if_neg hc]; exact .nil, e1, e2, rfl⟩
 ·clear e1 e2 F1 N1
  rintro sB ⟨h, m1, vs0, n0, tk, rfl, F1, N1, hs0, e1, e2, e3⟩
  refine st_for (σ := List Value × Nat) false (Ev.tupI (j := 3) (Ev.nm F1 e1) Ev.int (trow _ _ F1) rfl) a.hh (WordsLed d) (WordsInv k D vd d s.gens) (vs0, n0) [d] news rfl rfl F1 N1
   (fun q hq hq' => hab q hq (zS.mp hq')) (fun a ha => by rw [zS.mp ha]; exact ⟨_, .head _⟩) (.inl (a.K _ _ hlk)) ⟨rfl, by simpa using hs0, e1, e2, e3⟩ ?_ ?_ ?_ passes_never
  ·intro i y81 m g y82 p hp
   obtain ⟨vs, n⟩ := y81
   rw [zS.mp hp]
   exact ⟨by show Value.type "list" ≠ _; decide, by show Value.type "list" ≠ _; decide⟩
  ·clear e1 e2 e3 N1 F1 hs0
   intro i y81 m2 h gs tk rest v hv y82 hr hs F N
   obtain ⟨vs, n⟩ := y81
   obtain ⟨rfl, hst, e1, e2, e3⟩ := y82
   dsimp only at hst
   obtain ⟨key, tky, rfl, hkey⟩ := strs_get hks hv
   have hmem : key ∈ kkeys k := List.mem_of_getElem? hkey
   have hrd : ∀ q ∈ rest, q.1 ≠ d := fun q hq e => hr q hq (zS.mpr e)
   have hT' : TOk w T ((d, listOf vs.toArray n) :: rest) := hT.mono fun p hp => .tail _ (hs p hp)
   have hmm : (vd, vo) ∈ (d, listOf vs.toArray n) :: rest := .tail _ (hs _ hm)
   have hvs : vs.length <= 99 := by
    rw [strs_len hst, List.length_append, List.length_take, List.length_map]
    have h1 := (kkeys_facts hk).1
    have h2 : (chanW k D).length <= 1 := by unfold chanW; split <;> simp
    omega
   have fin : ∀ (h' : Heap) (tk' : Nat) (t : Tok) (new : List (Addr × Obj)), Fr g L h' (mput m2 (oS "key") (.str key tky)) -> News g L h' (new ++ ((d, listOf (vs.toArray.push (.str (wordOf D key) t)) (n + 1)) :: rest)) -> (∀ x ∈ new, x.1 ≠ d) ->
     ForEnd g L s (WordsLed d) (WordsInv k D vd d s.gens) [d] i rest (St s h' tk') := by
    intro h' tk' t new F' N' hnd
    refine ⟨(vs ++ [.str (wordOf D key) t], n + 1), _, h', _, tk', new ++ rest, rfl, F', fun p hp => N' p ?_, fun q hq => zR _ hq, fun q hq e => ?_, rfl, ?_, e1, e2, e3⟩
    ·rcases zA.mp hp with hp | hp
     ·rw [zS.mp hp]
      refine zR _ ?_
      rw [List.push_toArray]
      exact .head _
     ·rcases zA.mp hp with hp | hp
      ·exact zL _ hp
      ·exact zR _ (.tail _ hp)
    ·rcases zA.mp hq with hq | hq
     ·exact hnd q hq (zS.mp e)
     ·exact hrd q hq (zS.mp e)
    ·show StrsAre (vs ++ [_]) _
     have : ((kkeys k).map (wordOf D)).take (i + 1) = ((kkeys k).map (wordOf D)).take i ++ [wordOf D key] := by
      rw [List.take_add_one]; simp [hkey]
     rw [this, <- List.append_assoc]
     exact strs_append hst (.cons _ _ .nil)
   refine st_if1 (EvT.eqS (Ev.nmS F rfl) Ev.str) (fun tk b0 => ?_) (fun tk b0 => ?_)
   ·obtain ⟨g1, g2, g3⟩ := hg.seq key hmem b0
    obtain ⟨v, hv, hi⟩ := hD.has g1
    cases hi with
    | tup hT1 hI =>
    rename_i ta tvs tn
    have hlen : tvs.length <= 99 := by rw [hI.length]; exact g3
    have hw : ∀ x ∈ (dSeq D (oS "data")).map intStr, x.length <= 10 := fun x hx => by
     obtain ⟨n, hn, rfl⟩ := List.mem_map.mp hx
     exact intStr_len (g2 n hn)
    have hj := join_len (sep := oS ",") hw
    rw [List.length_map] at hj
    have hc : (oS ",").length = 1 := by decide +kernel
    rw [hc] at hj
    refine st_appendN rfl F N (Ev.nm F e3) (EvN.saddL (x := oS "data=(" ++ Txt.join (oS ",") ((dSeq D (oS "data")).map intStr)) (y := oS ")") (EvN.saddR (fun h F N => Ev.str)
     (EvN.join (ws := (dSeq D (oS "data")).map intStr) (fun h F N => Ev.str) (EvN.mono (EvN.comp (FV' := fun u v => ∀ n t, u = .int n t -> IsS (intStr n) v) a (fun h F N => Ev.dItemV N hmm (Ev.nm F e2) Ev.str hv) (fun h F N => ⟨_, hT'.get a F N _ hT1, rfl, _, rfl⟩) (by omega)
      (fun h C mCZ v hvm G hns hmx => ?_)) ?_) (joinOk hw (by rw [List.length_map, hc]; omega))) ?_) (fun h F => Ev.str) ?_) (fun v => .head hrd) (.head _) (by rw [List.size_toArray]; show vs.length <= _; omega) ?_
    ·obtain ⟨n, t, rfl, hn⟩ := ints_mem hI hvm
     exact Ev.mono (Ev.strI G (Ev.mono (Ev.nmNs hns hmx) fun _ e => ⟨t, e⟩) (g2 n hn)) fun v' hv' n' t' e => by cases e; exact hv'
    ·rintro _ _ ⟨D', ys, n', rfl, rfl, hp⟩
     exact ⟨D', ys, n', [], rfl, rfl, ints_strs (fun n t v h => h n t rfl) hI hp⟩
    ·show 6 + _ <= _; omega
    ·rw [len_append]; show 6 + _ + 1 <= _; omega
    ·intro y81 new h2 tk2 y82 hl2 F2 N2
     obtain ⟨t2, rfl⟩ := y82
     exact st_nil (fin h2 tk2 t2 new F2 (by rw [wordOf, if_pos b0]; exact N2) (fun x hx => Ne.symm (hl2 _ (.head _) x hx)))
   ·obtain ⟨g1, g2⟩ := hg.int key hmem b0
    refine st_append F N (Ev.nm F e3) (Ev.sadd (Ev.sadd (Ev.nmS F rfl) Ev.str ?_) (Ev.strI (a.gl.keeps F.keep) (Ev.dItemI N hmm (Ev.nm F e2) (Ev.nmS F rfl) hD g1) g2) ?_) (fun v _ => .head hrd) (.head _) (by rw [List.size_toArray]; show vs.length <= _; omega) ?_
    ·have := key_len hk key hmem; show _ + 1 <= _; omega
    ·have := key_len hk key hmem; have := intStr_len g2; rw [len_append]; show _ + 1 + _ <= _; omega
    ·intro y81 h2 tk2 y82 F2 N2
     obtain ⟨t2, rfl⟩ := y82
     exact st_nil (fin h2 tk2 t2 [] F2 (by rw [wordOf, if_neg (ne_true_of_eq_false b0)]; exact N2) (fun x hx => nomatch hx))
  ·intro y81 m2 h g tk y82 F N
   obtain ⟨vs, n⟩ := y81
   obtain ⟨rfl, hst, e1, e2, e3⟩ := y82
   refine st_ret (Ev.nm F e3) ?_
   rintro _ tk rfl
   refine ⟨[(d, listOf vs.toArray n)], h, tk, m2, rfl, F, N, fun q hq x hx => by rw [zS.mp hx]; exact hab q hq, d, vs, n, rfl, rfl, ?_⟩
   have hall : ((kkeys k).map (wordOf D)).take l.length = (kkeys k).map (wordOf D) := List.take_of_length_le (by rw [strs_len hks, List.length_map]; exact Nat.le_refl _)
   dsimp only at hst
   rw [hall] at hst
   exact hst
noncomputable def dfl (key : Str) : FV := if (key == oS "data") = true then .lst [] else if (key == oS "velocity") = true then .int 64 else .int 0
noncomputable def dfHead (k : Nat) : FD := [(oS "type", .str (kname k)), (oS "time", .int 0)] ++ (if kchan k = true then [(oS "channel", .int 0)] else [])
noncomputable def ldefaults (k : Nat) : FD := dfHead k ++ (kkeys k).map fun key => (key, dfl key)
noncomputable def DefLed (d : Addr) (c : Obj × List (Addr × Obj)) : List (Addr × Obj) := (d, c.1) :: c.2
noncomputable def DefInv (w : World) (k : Nat) (d : Addr) (news : List (Addr × Obj)) (gs : Array GenState) (i : Nat) (c : Obj × List (Addr × Obj)) (m : Str -> Option Value) (g : Array GenState) : Prop :=
 g = gs /\ DictIs rW.prog w c.2 d c.1 (dfHead k ++ ((kkeys k).map fun key => (key, dfl key)).take i) /\ (∀ p ∈ c.2, plainO p.2 /\ p.1 ≠ d /\ ∀ q ∈ news, q.1 ≠ p.1) /\
  m (oS "row") = some (.ref (444 + 2 * k)) /\ m (oS "shown") = some (.ref d)
theorem df_nodup {k : Nat} (hk : k < 18) : ((dfHead k).map (·.1) ++ kkeys k).Nodup /\ (dfHead k).length <= 3 := by
 refine lt18 (p := fun k => ((dfHead k).map (·.1) ++ kkeys k).Nodup /\ (dfHead k).length <= 3) ⟨?_, ?_, ?_, ?_, ?_, ?_, ?_, ?_, ?_, ?_, ?_, ?_, ?_, ?_, ?_, ?_, ?_, ?_⟩ hk
 all_goals decide +kernel
theorem map_fst {f : Str -> FV} (l : List Str) : (l.map fun key => (key, f key)).map (·.1) = l := by
 rw [List.map_map]; simp [Function.comp_def]
theorem put_next {H : FD} {l : List Str} {f : Str -> FV} (hn : (H.map (·.1) ++ l).Nodup) {i : Nat} {key : Str} (h : l[i]? = some key) :
  key ∉ (H ++ (l.map fun key => (key, f key)).take i).map (·.1) /\ (l.map fun key => (key, f key)).take (i + 1) = (l.map fun key => (key, f key)).take i ++ [(key, f key)] := by
 constructor
 ·rw [List.map_append, <- List.map_take, map_fst]
  intro hm
  rcases zA.mp hm with q | q
  ·exact (List.nodup_append.mp hn).2.2 _ q _ (List.mem_of_getElem? h) rfl
  ·exact take_new (List.nodup_append.mp hn).2.1 h q
 ·rw [List.take_add_one]; simp [h]
theorem put_put (D : FD) (k : Str) (x y : FV) : dPut (dPut D k x) k y = dPut D k y := by
 have any_map : ∀ (D : FD) (z : FV), (D.map fun kd => if kd.1 = k then (kd.1, z) else kd).any (fun kd => kd.1 = k) = D.any (fun kd => kd.1 = k) := by
  intro D z
  induction D with
  | nil => rfl
  | cons p D ih =>
   rw [List.map_cons, List.any_cons, List.any_cons, ih]
   by_cases e : p.1 = k <;> simp [e]
 have map_map : ∀ (D : FD), (D.map fun kd => if kd.1 = k then (kd.1, x) else kd).map (fun kd => if kd.1 = k then (kd.1, y) else kd) = D.map fun kd => if kd.1 = k then (kd.1, y) else kd := by
  intro D
  rw [List.map_map]
  refine List.map_congr_left fun p _ => ?_
  by_cases e : p.1 = k <;> simp [e]
 by_cases h : D.any (fun kd => kd.1 = k) = true
 ·rw [dPut, dPut, dPut, if_pos h, any_map, if_pos h, map_map, if_pos h]
 ·have hm : (D.map fun kd => if kd.1 = k then (kd.1, y) else kd) = D := by
   refine (List.map_congr_left fun p hp => ?_).trans (List.map_id D)
   rw [if_neg]
   ·rfl
   ·exact fun e => h (List.any_eq_true.mpr ⟨p, hp, by simp [e]⟩)
  have ha : (D ++ [(k, x)]).any (fun kd => kd.1 = k) = true := by simp
  rw [dPut, dPut, dPut, if_neg h, ha, if_pos rfl, List.map_append, hm, if_neg h]
  simp
theorem law_defaults (w : World) (news : List (Addr × Obj)) {k : Nat} (hk : k < 18) :
  Gives w 505 1 3 [.ref (444 + 2 * k)] [] news (fun r new => ∃ (a : Addr) (o : Obj) (T : List (Addr × Obj)), r = .ref a /\ new = (a, o) :: T /\ DictIs rW.prog w T a o (ldefaults k)) := by
 refine' enter (D := 0) (U := 0) (binds := [(oS "row", .ref (444 + 2 * k))]) ?ho ?hcd ?hbind ?hloc ?hb ⟨_, rfl, ?hn⟩ ?c1 ?c2 ?c3 ?c4
 case ho => k_is
 case hcd => k_is
 case hbind => exact rfl
 case hloc => exact rfl
 case hn => simp only [List.map_cons, List.map_nil]; decide +kernel
 case c1 => rfl
 case c2 => rfl
 case c3 => rfl
 case c4 => decide
 intro A g L s m a F hm' N
 have e1 := hm' _ (.head _)
 clear hm'
 dsimp only at e1
 obtain ⟨tr, nr, ur, hrow⟩ := row_lk w.params hk
 obtain ⟨l, hlk, hks⟩ := keys_lk w.params hk
 obtain ⟨hnd, hhl⟩ := df_nodup hk
 have trow : ∀ h m, Fr g L h m -> IsTup h (444 + 2 * k) _ := fun h m F => tupK (a.K.keeps F.keep) hrow
 refine st_assignN rfl F N (EvN.dict2 (v1 := .str (kname k)) (v2 := .int 0) a (by decide) (fun h F N => Ev.mono (Ev.tupI (j := 0) (Ev.nm F e1) Ev.int (trow _ _ F) rfl) ?_) (fun h F N => Ev.mono Ev.int ?_)) ?_
 ·rintro _ rfl; exact .str _ _
 ·rintro _ ⟨_, rfl⟩; exact .int _ _
 intro y81 y82 h1 tk1 y83 l1 F1 N1
 obtain ⟨d, o1, hd, rfl, rfl⟩ := y83
 have hab : ∀ q ∈ news, q.1 ≠ d := fun q hq => l1 q hq _ (.head _)
 clear F N l1
 refine join_J (fun sB => ∃ h m o tk, sB = (St s h tk) /\ Fr g L h m /\ News g L h ((d, o) :: news) /\ DictIs rW.prog w [] d o (dfHead k) /\
  m (oS "row") = some (.ref (444 + 2 * k)) /\ m (oS "shown") = some (.ref d)) ?_ ?_
 ·refine wpAny_If (EvT.run (EvT.bool (Ev.tupI (j := 2) (Ev.nm F1 e1) Ev.int (trow _ _ F1) rfl)) fun tk => ?_)
  split
  ·rename_i hc
   exact st_itemI F1 N1 Ev.int (Ev.nm F1 rfl) Ev.str (.head hab) (hd []) (Nat.le_of_ble_eq_true rfl) fun h' o' tk' F' N' hd' => st_nil ⟨rfl, h', _, o', tk', rfl, F', N', by rw [dfHead, if_pos hc]; exact hd', e1, rfl⟩
  ·rename_i hc
   exact st_nil ⟨rfl, h1, _, o1, tk, rfl, F1, N1, by rw [dfHead, if_neg hc]; exact hd [], e1, rfl⟩
 ·clear e1 F1 N1 hd
  rintro sB ⟨h, m1, o1, tk, rfl, F1, N1, hd1, e1, e2⟩
  refine st_for (σ := Obj × List (Addr × Obj)) false (Ev.tupI (j := 3) (Ev.nm F1 e1) Ev.int (trow _ _ F1) rfl) a.hh (DefLed d) (DefInv w k d news s.gens) (o1, []) [d] news rfl rfl F1 N1
   (fun q hq hq' => hab q hq (zS.mp hq')) (fun a ha => by rw [zS.mp ha]; exact ⟨_, .head _⟩) (.inl (a.K _ _ hlk)) ⟨rfl, by simpa using hd1, fun p hp => (nomatch hp), e1, e2⟩ ?_ ?_ ?_ passes_never
  ·intro i y81 m g y82 p hp
   obtain ⟨o, T⟩ := y81
   obtain ⟨_, hd, hT, _⟩ := y82
   rcases zC.mp hp with rfl | hp
   ·exact hd.plain
   ·exact (hT p hp).1
  ·clear e1 e2 N1 hd1 F1
   intro i y81 m2 h gs tk rest v hv y82 hr hs F N
   obtain ⟨o2, T2⟩ := y81
   obtain ⟨rfl, hd, hT, e1, e2⟩ := y82
   dsimp only at hd hT
   obtain ⟨key, tky, rfl, hkey⟩ := strs_get hks hv
   obtain ⟨hn1, hn2⟩ := put_next (f := dfl) hnd hkey
   have hlen : (dfHead k ++ ((kkeys k).map fun key => (key, dfl key)).take i).length <= 98 := by
    have := (kkeys_facts hk).1
    rw [List.length_append, List.length_take, List.length_map]; omega
   have hin : ∀ q ∈ T2 ++ rest, q.1 ≠ d := fun q hq => (zA.mp hq).elim (fun x => (hT _ x).2.1) (fun x e => hr _ x (zS.mpr e))
   have fin : ∀ (h' : Heap) (o' : Obj) (tk' : Nat) (T' R' : List (Addr × Obj)), Fr g L h' (mput m2 (oS "key") (.str key tky)) -> News g L h' ((d, o') :: (T' ++ R')) -> (∀ q ∈ rest, q ∈ R') -> (∀ q ∈ R', q.1 ≠ d) ->
     DictIs rW.prog w T' d o' ((dfHead k ++ ((kkeys k).map fun key => (key, dfl key)).take i) ++ [(key, dfl key)]) -> (∀ p ∈ T', plainO p.2 /\ p.1 ≠ d /\ ∀ q ∈ news, q.1 ≠ p.1) -> ForEnd g L s (DefLed d) (DefInv w k d news s.gens) [d] i rest (St s h' tk') := by
    intro h' o' tk' T' R' F' N' hR1 hR2 hd' hT'
    rw [List.append_assoc, <- hn2] at hd'
    exact ⟨(o', T'), _, h', _, tk', R', rfl, F', N', hR1, fun q hq e => hR2 q hq (zS.mp e), rfl, hd', hT', e1, e2⟩
   have hrd : ∀ q ∈ rest, q.1 ≠ d := fun q hq => hin q (zR _ hq)
   refine st_itemI F N Ev.int (Ev.nm F e2) (Ev.nmS F rfl) (.head hin) hd (by omega) fun h3 o3 tk3 F3 N3 hd3 => ?_
   have hz3 : (dPut (dfHead k ++ ((kkeys k).map fun key => (key, dfl key)).take i) key (.int 0)).length <= 99 := by rw [dPut_new hn1, List.length_append]; simp only [List.length_cons, List.length_nil]; omega
   refine st_if (EvT.eqS (Ev.nmS F3 rfl) Ev.str) (fun tk b0 => ?_) (fun tk b0 => ?_)
   ·refine st_itemI F3 N3 Ev.int (Ev.nm F3 e2) (Ev.nmS F3 rfl) (.head hin) hd3 hz3 fun h4 o4 tk4 F4 N4 hd4 => st_nil ?_
    refine st_if1 (EvT.eqS (Ev.nmS F4 rfl) Ev.str) (fun tk b1 => ?_) (fun tk b1 => ?_)
    ·rw [eq_of_beq b0] at b1; exact absurd b1 (by decide)
    ·refine st_nil (fin h4 o4 tk T2 rest F4 N4 (fun _ => id) hrd ?_ hT)
     rw [put_put, dPut_new hn1] at hd4
     rw [dfl, if_neg (ne_true_of_eq_false b1), if_pos b0]
     exact hd4
   ·refine st_nil (st_if1 (EvT.eqS (Ev.nmS F3 rfl) Ev.str) (fun tk b1 => ?_) (fun tk b1 => ?_))
    ·refine st_itemN rfl F3 N3 (EvN.list (fun h F N => EvL.nil) (by rintro _ rfl; decide)) (fun h F => Ev.nm F e2) (fun h F => Ev.nmS F rfl) ?_
     intro y81 y82 h4 tk4 t4 y83 hl F4 N4
     obtain ⟨c, _, rfl, rfl, rfl⟩ := y83
     have hc := hl (d, o3) (.head _) _ (.head _)
     refine d_set (T := (c, listOf ([] : List Value).toArray 0) :: T2) (x := .lst []) F4 N4 (.tail (Ne.symm hc) (.head hin)) (hd3.mono fun _ => .tail _) (.lst (.head _) .nil) hz3 fun h5 o5 F5 N5 hd5 => ?_
     refine st_nil (fin h5 o5 _ ((c, listOf ([] : List Value).toArray 0) :: T2) rest F5 (fun p hp => N5 p ?_) (fun _ => id) hrd ?_ (fun p hp => ?_))
     ·rcases zC.mp hp with rfl | hp
      ·exact .tail _ (.head _)
      ·rcases zC.mp hp with rfl | hp
       ·exact .head _
       ·exact .tail _ (.tail _ hp)
     ·rw [put_put, dPut_new hn1] at hd5
      rw [dfl, if_pos b1]
      exact hd5
     ·rcases zC.mp hp with rfl | hp
      ·exact ⟨⟨by show Value.type "list" ≠ _; decide, by show Value.type "list" ≠ _; decide⟩, Ne.symm hc, fun q hq => hl q (.tail _ (zR _ (hs q hq))) _ (.head _)⟩
      ·exact hT p hp
    ·refine st_nil (fin h3 o3 tk T2 rest F3 N3 (fun _ => id) hrd ?_ hT)
     rw [dPut_new hn1] at hd3
     rw [dfl, if_neg (ne_true_of_eq_false b1), if_neg (ne_true_of_eq_false b0)]
     exact hd3
  ·intro y81 m2 h g tk y82 F N
   obtain ⟨o2, T2⟩ := y81
   obtain ⟨rfl, hd, hT, e1, e2⟩ := y82
   dsimp only at hd hT N
   have hall : ((kkeys k).map fun key => (key, dfl key)).take l.length = (kkeys k).map fun key => (key, dfl key) := List.take_of_length_le (by rw [strs_len hks, List.length_map]; exact Nat.le_refl _)
   rw [hall] at hd
   refine st_ret (Ev.nm F e2) ?_
   rintro _ tk rfl
   refine ⟨(d, o2) :: T2, h, tk, m2, rfl, F, N, fun q hq x hx => ?_, d, o2, T2, rfl, rfl, hd⟩
   rcases zC.mp hx with rfl | hx
   ·exact hab q hq
   ·exact (hT x hx).2.2 q hq
section
variable {prog : Program} {w : World} {A : Around} {env : Env} {h hZ : Heap} {L : Addr} {m : Str -> Option Value} {news : List (Addr × Obj)} {e eAZ eB eC : Expr} {es : List Expr} {R RA RB : Value -> Prop} {x y : Str} {a b c : Int} {pos pA pB pC : Pos} {s : Shared} {Q : Flow -> Shared -> Prop} {E : Value -> Shared -> Prop} {rest body orelse : List Stmt}
theorem EvT.not {M : Model} {c : Bool} (h1 : EvT M A env h e c) : EvT M A env h (.UnaryOp .Not e pos) (!c) := fun s Q E hs hq => isTrue_not (h1 s _ E hs hq)
theorem gisi (P : Params) : nsIn (KK P) mainGlobals (oS "isinstance") = some Option.none := by with_unfolding_all rfl
theorem gint (P : Params) : nsIn (KK P) mainGlobals (oS "int") = some Option.none := by with_unfolding_all rfl
theorem Ev.isInt {n : Int} (G : Gl w h) (he : Ev (model prog w) A env h e (IsI n))
  (hg : autoParam (env.globals = mainGlobals) tA0) (hbl : autoParam (env.builtins = builtinsNs) tA0) (hk : autoParam (env.scope.kind = .function) tA0) (hx : autoParam (env.kindOf (oS "isinstance") = some .globalImplicit) tA0) (hx2 : autoParam (env.kindOf (oS "int") = some .globalImplicit) tA0)
  (hs : autoParam (starEach [e, .Name (oS "int") pB] env = (false, eval e env) :: starEach [.Name (oS "int") pB] env) tA0) (hn : autoParam (((backTo pos (starEach [.Name (oS "int") pB] env)).any fun x => x.1) = false) tA0)
  (hc : autoParam (eval (.Call (.Name (oS "isinstance") pA) [e, .Name (oS "int") pB] [] pos) env = (do let f <- eval (.Name (oS "isinstance") pA) env; callWith pos f [] (backTo pos (starEach [e, .Name (oS "int") pB] env)) (backToKw pos (keywordEach [] env)))) tA0) :
  Ev (model prog w) A env h (.Call (.Name (oS "isinstance") pA) [e, .Name (oS "int") pB] [] pos) (· = .bool true) := by
 refine Ev.callB (f := "isinstance") (Ev.built G (gisi _) (by rfl) (by decide) hg hbl hk hx) (EvL.cons he (EvL.one (Ev.built G (gint _) (by rfl) (by decide) hg hbl hk hx2) rfl) hs) (fun s Q E vs hh hvs hq => ?_) hs hn hc
 obtain ⟨_, _, rfl, ⟨t, rfl⟩, _, rfl, rfl⟩ := hvs
 exact IsiPair.int_int (hq _ s.toks rfl)
theorem EvT.between (h1 : Ev (model prog w) A env h eAZ (IsI a)) (h2 : Ev (model prog w) A env h eB (IsI b)) (h3 : Ev (model prog w) A env h eC (IsI c)) (hm : autoParam (lastMarks [.LtE, .LtE] [eB, eC] = false) tA4) :
  EvT (model prog w) A env h (.Compare eAZ [.LtE, .LtE] [eB, eC] pos) (decide (a <= b) && decide (b <= c)) := by
 intro s Q E hs hq
 refine isTrue_chain (h1 s _ E hs fun u tk hu => ?_) hm
 refine test_link (h2 _ _ E hs fun v tk' hv => ?_)
 obtain ⟨t, rfl⟩ := hu
 obtain ⟨t', rfl⟩ := hv
 refine le_int (wpAny_truthy_bool ?_)
 cases h : decide (a <= b) with
 | false =>
  rw [h] at hq
  exact hq _
 | true =>
  refine test_last (h3 _ _ E hs fun z tk'' hz => ?_)
  obtain ⟨t'', rfl⟩ := hz
  refine le_int (wpAny_truthy_bool ?_)
  rw [h] at hq
  exact hq _
end
theorem between_ok {a b c : Int} (h1 : a <= b) (h2 : b <= c) : (!(decide (a <= b) && decide (b <= c))) ≠ true := by simp [h1, h2]
noncomputable abbrev NoneNew (r : Value) (new : List (Addr × Obj)) : Prop := r = .none /\ new = []
theorem ret_none {g : Heap} {L : Addr} {news : List (Addr × Obj)} {s : Shared} {h : Heap} {tk : Nat} {m : Str -> Option Value} (F : Fr g L h m) (N : News g L h news) : Ret g L news s NoneNew .next (St s h tk) :=
 ⟨[], h, tk, m, rfl, F, N, fun _ _ _ hx => absurd hx List.not_mem_nil, rfl, rfl⟩
theorem check_channel (w : World) (news : List (Addr × Obj)) {n : Int} {t : Tok} (h0 : 0 <= n) (h1 : n <= 15) : Gives w 107 1 3 [.int n t] [] news NoneNew := by
 refine entr 0 0 [(oS "channel", .int n t)] (fun A g L s m a F hm N => ?_)
 have e1 := hm _ (.head _)
 have G := a.gl.keeps F.keep
 exact st_if1 (EvT.not (EvT.bool (Ev.isInt G (Ev.nmI F e1)))) (fun tk hb => nomatch hb) (fun tk _ => st_if1 (EvT.not (EvT.between Ev.int (Ev.nmI F e1) Ev.int)) (fun tk hb => absurd hb (between_ok h0 h1)) (fun tk _ => st_nil (ret_none F N)))
theorem check_pos (w : World) (news : List (Addr × Obj)) {n : Int} {t : Tok} (h0 : 0 <= n) (h1 : n <= 16383) : Gives w 114 1 3 [.int n t] [] news NoneNew := by
 refine entr 0 0 [(oS "pos", .int n t)] (fun A g L s m a F hm N => ?_)
 have e1 := hm _ (.head _)
 have G := a.gl.keeps F.keep
 exact st_if1 (EvT.not (EvT.bool (Ev.isInt G (Ev.nmI F e1)))) (fun tk hb => nomatch hb) (fun tk _ => st_if1 (EvT.not (EvT.between (Ev.mono (Ev.glob (x := oS "MIN_SONGPOS") G (by k_is)) fun _ e => ⟨_, e⟩) (Ev.nmI F e1) (Ev.mono (Ev.glob (x := oS "MAX_SONGPOS") G (by k_is)) fun _ e => ⟨_, e⟩))) (fun tk hb => absurd hb (between_ok h0 h1)) (fun tk _ => st_nil (ret_none F N)))
theorem check_pitch (w : World) (news : List (Addr × Obj)) {n : Int} {t : Tok} (h0 : -8192 <= n) (h1 : n <= 8191) : Gives w 121 1 3 [.int n t] [] news NoneNew := by
 refine entr 0 0 [(oS "pitch", .int n t)] (fun A g L s m a F hm N => ?_)
 have e1 := hm _ (.head _)
 have G := a.gl.keeps F.keep
 exact st_if1 (EvT.not (EvT.bool (Ev.isInt G (Ev.nmI F e1)))) (fun tk hb => nomatch hb) (fun tk _ => st_if1 (EvT.not (EvT.between (Ev.mono (Ev.glob (x := oS "MIN_PITCHWHEEL") G (by k_is)) fun _ e => ⟨_, e⟩) (Ev.nmI F e1) (Ev.mono (Ev.glob (x := oS "MAX_PITCHWHEEL") G (by k_is)) fun _ e => ⟨_, e⟩))) (fun tk hb => absurd hb (between_ok h0 h1)) (fun tk _ => st_nil (ret_none F N)))
theorem check_frame_type (w : World) (news : List (Addr × Obj)) {n : Int} {t : Tok} (h0 : 0 <= n) (h1 : n <= 7) : Gives w 135 1 3 [.int n t] [] news NoneNew := by
 refine entr 0 0 [(oS "value", .int n t)] (fun A g L s m a F hm N => ?_)
 have e1 := hm _ (.head _)
 have G := a.gl.keeps F.keep
 exact st_if1 (EvT.not (EvT.bool (Ev.isInt G (Ev.nmI F e1)))) (fun tk hb => nomatch hb) (fun tk _ => st_if1 (EvT.not (EvT.between Ev.int (Ev.nmI F e1) Ev.int)) (fun tk hb => absurd hb (between_ok h0 h1)) (fun tk _ => st_nil (ret_none F N)))
theorem check_frame_value (w : World) (news : List (Addr × Obj)) {n : Int} {t : Tok} (h0 : 0 <= n) (h1 : n <= 15) : Gives w 142 1 3 [.int n t] [] news NoneNew := by
 refine entr 0 0 [(oS "value", .int n t)] (fun A g L s m a F hm N => ?_)
 have e1 := hm _ (.head _)
 have G := a.gl.keeps F.keep
 exact st_if1 (EvT.not (EvT.bool (Ev.isInt G (Ev.nmI F e1)))) (fun tk hb => nomatch hb) (fun tk _ => st_if1 (EvT.not (EvT.between Ev.int (Ev.nmI F e1) Ev.int)) (fun tk hb => absurd hb (between_ok h0 h1)) (fun tk _ => st_nil (ret_none F N)))
theorem check_data_byte (w : World) (news : List (Addr × Obj)) {n : Int} {t : Tok} (h0 : 0 <= n) (h1 : n <= 127) : Gives w 149 1 3 [.int n t] [] news NoneNew := by
 refine entr 0 0 [(oS "value", .int n t)] (fun A g L s m a F hm N => ?_)
 have e1 := hm _ (.head _)
 have G := a.gl.keeps F.keep
 exact st_if1 (EvT.not (EvT.bool (Ev.isInt G (Ev.nmI F e1)))) (fun tk hb => nomatch hb) (fun tk _ => st_if1 (EvT.not (EvT.between Ev.int (Ev.nmI F e1) Ev.int)) (fun tk hb => absurd hb (between_ok h0 h1)) (fun tk _ => st_nil (ret_none F N)))
theorem check_time (w : World) (news : List (Addr × Obj)) {n : Int} {t : Tok} : Gives w 156 1 3 [.int n t] [] news NoneNew := by
 refine entr 0 0 [(oS "time", .int n t)] (fun A g L s m a F hm N => ?_)
 have e1 := hm _ (.head _)
 have G := a.gl.keeps F.keep
 exact st_if1 (EvT.not (EvT.bool (Ev.isInt G (Ev.nmI F e1)))) (fun tk hb => nomatch hb) (fun tk _ => st_nil (ret_none F N))
section
variable {prog : Program} {w : World} {A : Around} {env : Env} {h hZ : Heap} {L : Addr} {m : Str -> Option Value} {news : List (Addr × Obj)} {e : Expr} {RN : Value -> List (Addr × Obj) -> Prop} {pos : Pos} {s : Shared} {Q : Flow -> Shared -> Prop} {E : Value -> Shared -> Prop} {rest : List Stmt}
theorem st_exprN (F : Fr hZ L s.heap m) (N : News hZ L s.heap news) (he : EvN (model prog w) A env hZ L m news e RN)
  (hr : ∀ v new h' tk, RN v new -> (Ap news new) -> Fr hZ L h' m -> News hZ L h' (new ++ news) -> wpAny (model prog w) A (execs rest env) Q E (St s h' tk))
  (hi : autoParam (interactive env = false) tA0) (hsw : autoParam (swapsWith e Option.none pos.line env = pure false) tA0) : wpAny (model prog w) A (execs (.Expr e pos :: rest) env) Q E s :=
 wpAny_execs_cons (wpAny_Expr_any (he s _ E F N fun v new h' tk hv hl F' N' => hr v new h' tk hv hl F' N') hi hsw)
end
theorem ints_at : ∀ {us : List Value} {ns : List Int}, IntsAre us ns -> ∀ {i : Nat} {v : Value}, us[i]? = some v -> ∃ n t, v = .int n t /\ n ∈ ns := fun hi i v hv => ints_mem hi (List.mem_of_getElem? hv)
theorem check_data (w : World) (news : List (Addr × Obj)) {T : List (Addr × Obj)} {v : Value} {ns : List Int} (hv : VIn T v (.tup ns)) (hT : TOk w T news) (hok : ∀ n ∈ ns, 0 <= n /\ n <= 127) : Gives w 128 2 6 [v] [] news NoneNew := by
 cases hv with
 | tup hm hi =>
 rename_i l vs n
 refine entr 1 3 [(oS "data_bytes", .ref l)] (fun A g L s m a F hm' N => ?_)
 have e1 := hm' _ (.head _)
 refine st_for (σ := Unit) (ol := { cls := .type "tuple", data := .seq vs.toArray n }) (items := vs) (ep := n) true (Ev.nm F e1) a.hh (fun _ => []) (fun _ _ _ gs => gs = s.gens) () [] news rfl rfl F N (fun _ _ => List.not_mem_nil) (fun _ h => absurd h List.not_mem_nil) ?_ rfl (fun _ _ _ _ _ _ h => absurd h List.not_mem_nil) ?_ ?_ passes_never
 ·rcases hT _ hm with q | q
  ·exact .inr q
  ·have := a.K _ _ (lk86 w.params)
   rw [<- (Prod.mk.inj q).1, <- (Prod.mk.inj q).2] at this
   exact .inl this
 ·rintro i _ m2 h gs tk rest v hv rfl _ hs F N
  obtain ⟨x, t, rfl, hx⟩ := ints_at hi hv
  refine st_exprN F N (EvN.fn (RN := NoneNew) a (fun h F N => Ev.glob (a.gl.keeps F.keep) (by k_is)) (by k_is) (fun h F N => EvL.one (Ev.nmI F rfl)) (fun vs hvs => ?_)) ?_
  ·obtain ⟨_, rfl, t', rfl⟩ := hvs
   exact check_data_byte w _ (hok x hx).1 (hok x hx).2
  ·intro y81 y82 h' tk' y83 y84 F' N'
   obtain ⟨rfl, rfl⟩ := y83
   exact st_nil ⟨(), _, h', _, tk', rest, rfl, F', N', fun _ => id, fun _ _ => List.not_mem_nil, rfl⟩
 ·rintro _ m2 h gs tk rfl F N
  exact st_nil (ret_none F N)
section
variable {prog : Program} {w : World} {A : Around} {env : Env} {h hZ : Heap} {L : Addr} {m : Str -> Option Value} {news : List (Addr × Obj)} {e eAZ eB : Expr} {R : Value -> Prop} {RN : Value -> List (Addr × Obj) -> Prop} {pos pA pB : Pos} {s : Shared} {Q : Flow -> Shared -> Prop} {E : Value -> Shared -> Prop} {rest : List Stmt}
theorem Ev.kItem {a : Addr} {es : Array DictEntry} {n : Nat} {kx : Str} {v : Value} (F : Fr hZ L h m) (X : (KK w.params).In hZ) (hl : (KK w.params).lookup a = some ⟨.type "dict", Option.none, .dict es n, #[]⟩) (hk : KeysLit w.params es.toList) (hn : nsIn (KK w.params) a kx = some (some v))
  (h1 : Ev (model prog w) A env h eAZ (· = .ref a)) (h2 : Ev (model prog w) A env h eB (IsS kx))
  (hs : autoParam (∀ u, subscripted eB false (.ref a) (.str kx u) = operate [.ref a, .str kx u] (getItem (.ref a) (.str kx u))) tA4) : Ev (model prog w) A env h (.Subscript eAZ eB pos) (· = v) :=
 h1.sub1 h2 fun s Q E u z hh hu hz hq => by
  obtain rfl := hu
  obtain ⟨tk, rfl⟩ := hz
  subst hh
  exact topItem_K F X hl hk hn (hq v _ rfl) (hs tk)
theorem EvT.kIn {a : Addr} {es : Array DictEntry} {n : Nat} {kx : Str} {r : Option Value} (F : Fr hZ L h m) (X : (KK w.params).In hZ) (hl : (KK w.params).lookup a = some ⟨.type "dict", Option.none, .dict es n, #[]⟩) (hk : KeysLit w.params es.toList) (hn : nsIn (KK w.params) a kx = some r) (lo : (a == sysModules) = false)
  (h1 : Ev (model prog w) A env h eAZ (IsS kx)) (h2 : Ev (model prog w) A env h eB (· = .ref a)) (hb : autoParam (behindInMarks .In eB = false) tA0) : EvT (model prog w) A env h (.Compare eAZ [.In] [eB] pos) r.isSome :=
 EvT.cmp h1 h2 (fun s Q E u v hh hu hv hq => by
  obtain ⟨t, rfl⟩ := hu
  obtain rfl := hv
  subst hh
  exact topIn_K F X hl hk hn lo (hq _)) hb
theorem EvT.kNotIn {a : Addr} {es : Array DictEntry} {n : Nat} {kx : Str} {r : Option Value} (F : Fr hZ L h m) (X : (KK w.params).In hZ) (hl : (KK w.params).lookup a = some ⟨.type "dict", Option.none, .dict es n, #[]⟩) (hk : KeysLit w.params es.toList) (hn : nsIn (KK w.params) a kx = some r) (lo : (a == sysModules) = false)
  (h1 : Ev (model prog w) A env h eAZ (IsS kx)) (h2 : Ev (model prog w) A env h eB (· = .ref a)) (hb : autoParam (behindInMarks .NotIn eB = false) tA0) : EvT (model prog w) A env h (.Compare eAZ [.NotIn] [eB] pos) (!r.isSome) :=
 EvT.cmp h1 h2 (fun s Q E u v hh hu hv hq => by
  obtain ⟨t, rfl⟩ := hu
  obtain rfl := hv
  subst hh
  exact wpAny_notIn_of (strKind_is _ _ _ t) lo (mapOf_K (prog := prog) (X.keeps F.keep) hl hk) (by rw [find_K hl hn]; exact hq _)) hb
theorem d_update {d dB : Addr} {o oB : Obj} {D DB : FD} {T : List (Addr × Obj)} {g : Obj -> List (Addr × Obj)} {Q : Value -> Shared -> Prop} {E : Value -> Shared -> Prop} (F : Fr hZ L s.heap m) (N : News hZ L s.heap news) (U : UpdF d o news g) (hd : DictIs prog w T d o D) (hp : (dB, oB) ∈ news) (hdBZ : DictIs prog w T dB oB DB) (hne : d ≠ dB) (hz : D.length + DB.length <= 99)
  (h : ∀ h' o', Fr hZ L h' m -> News hZ L h' (g o') -> DictIs prog w T d o' (dMerge D DB) -> Q .none { s with heap := h' }) : wpAny (model prog w) A (PySem.call (.builtin "dict.update") [.ref d, .ref dB]) Q E s := by
 obtain ⟨lo, kvs, hd, hf⟩ := hd
 obtain ⟨loB, more, hdBZ, hfB⟩ := hdBZ
 obtain ⟨pre, post, rfl, hg, a, b⟩ := U.split
 have hm := N (d, o) (zR _ (.head _))
 have hD : s.heap.DictOf (strKind prog w) d kvs := Heap.dictOf_iff.mpr ⟨o, hm.1, hd⟩
 have hDB : s.heap.DictOf (strKind prog w) dB more := Heap.dictOf_iff.mpr ⟨oB, (N _ hp).1, hdBZ⟩
 refine call_meetsIn PySem.F.slot_dict_update hD.typeIs PySem.F.entry_dict_update (PySem.F.args_dict_update_2 _ _) (meets_dict_update (strKind prog w) d dB hne loB)
  ⟨kvs, more, hD, hDB, (by rw [hf.length, hfB.length, sizeLine_eq]; omega), fun h' hmm _ hs => ?_⟩
 obtain ⟨o', ho', hd'⟩ := Heap.dictOf_iff.mp hmm
 exact h h' o' (F.change hs hm.2.1 hm.2.2) (hg o' ▸ N.setIn a b hs ho') ⟨lo, _, hd', hf.merge hfB⟩
theorem st_update {pl : Sem Bool} {d dB : Addr} {o oB : Obj} {D DB : FD} {T : List (Addr × Obj)} {g : Obj -> List (Addr × Obj)} (F : Fr hZ L s.heap m) (N : News hZ L s.heap news) (ho : Ev (model prog w) A env s.heap eAZ (· = .ref d)) (he : Ev (model prog w) A env s.heap e (· = .ref dB))
  (U : UpdF d o news g) (hm : (d, o) ∈ news) (hd : DictIs prog w T d o D) (hp : (dB, oB) ∈ news) (hdBZ : DictIs prog w T dB oB DB) (hne : d ≠ dB) (hz : D.length + DB.length <= 99)
  (hr : ∀ h' o' tk, Fr hZ L h' m -> News hZ L h' (g o') -> DictIs prog w T d o' (dMerge D DB) -> wpAny (model prog w) A (execs rest env) Q E (St s h' tk))
  (hs : autoParam (starEach [e] env = (false, eval e env) :: starEach [] env) tA0) (hnn : autoParam (((backTo pB (starEach [] env)).any fun x => x.1) = false) tA0) (hi : autoParam (interactive env = false) tA0) (hsw : autoParam (swapsWith (.Call (.Attribute eAZ (oS "update") pA) [e] [] pB) Option.none pos.line env = pure false) tA0)
  (hc : autoParam (eval (.Call (.Attribute eAZ (oS "update") pA) [e] [] pB) env = (do
   let ov <- eval eAZ env
   standAt pA.atName
   let (f, first) <- holding [ov] (getMethod ov (oS "update") pl)
   callWith pB f first (backTo pB (starEach [e] env)) [])) tA0) : wpAny (model prog w) A (execs (.Expr (.Call (.Attribute eAZ (oS "update") pA) [e] [] pB) pos :: rest) env) Q E s := by
 refine wpAny_execs_cons (wpAny_Expr_any ?_ hi hsw)
 refine MethodCall_ (ho s _ E rfl fun v tk hv => ?_) hc
 subst hv
 obtain ⟨lo, kvs, hdd, hff⟩ := id hd
 refine kob_method PySem.F.slot_dict_update PySem.F.type_dict_update N hm hdd ?_
 refine PyProof.Rows.callWith_method1 (spliced_more (he _ _ E rfl fun v tk' hv => spliced_none ?_) hs) hs hnn
 subst hv
 exact d_update F N U hd hp hdBZ hne hz fun h' o' F' N' hd' => hr h' o' tk' F' N' hd'
end
noncomputable def mdfl (key : Str) : FV := if (key == oS "data") = true then .tup [] else if (key == oS "velocity") = true then .int 64 else .int 0
noncomputable abbrev T86 (w : World) : List (Addr × Obj) := [(86, o86 w.params)]
theorem dflt_one {P : Params} {T : List (Addr × Obj)} {name : Str} {v : Value} (h1 : nsIn (KK P) 85 name = some (some v)) (h2 : VIn T v (mdfl name)) : ∃ v, nsIn (KK P) 85 name = some (some v) /\ VIn T v (mdfl name) := ⟨v, h1, h2⟩
theorem dflt_lk (w : World) : (∃ es n, (KK w.params).lookup 85 = some ⟨.type "dict", none, .dict es n, #[]⟩ /\ KeysLit w.params es.toList) /\ (∃ t, nsIn (KK w.params) 85 (oS "time") = some (some (.int 0 t))) /\
  ∀ name ∈ [oS "channel", oS "control", oS "data", oS "frame_type", oS "frame_value", oS "note", oS "pitch", oS "pos", oS "program", oS "song", oS "value", oS "velocity"],
   ∃ v, nsIn (KK w.params) 85 name = some (some v) /\ VIn (T86 w) v (mdfl name) := by
 refine ⟨?_, ?_, fun name hn => ?_⟩
 ·refine' ⟨_, _, ?a, ?b⟩
  case a => with_unfolding_all rfl
  case b => exact ⟨⟨_, _, rfl, rfl⟩, ⟨_, _, rfl, rfl⟩, ⟨_, _, rfl, rfl⟩, ⟨_, _, rfl, rfl⟩, ⟨_, _, rfl, rfl⟩, ⟨_, _, rfl, rfl⟩, ⟨_, _, rfl, rfl⟩, ⟨_, _, rfl, rfl⟩, ⟨_, _, rfl, rfl⟩, ⟨_, _, rfl, rfl⟩, ⟨_, _, rfl, rfl⟩, ⟨_, _, rfl, rfl⟩, ⟨_, _, rfl, rfl⟩, trivial⟩
 ·exact ⟨_, by with_unfolding_all rfl⟩
 ·simp only [zC, List.not_mem_nil, or_false] at hn
  have i0 : VIn (T86 w) (.ref 86) (.tup []) := .tup (vs := []) (n := 0) (.head _) .nil
  rcases hn with rfl | rfl | rfl | rfl | rfl | rfl | rfl | rfl | rfl | rfl | rfl | rfl
  all_goals first
   | exact dflt_one (v := .ref 86) (by with_unfolding_all rfl) (by rw [show mdfl (oS "data") = .tup [] by rfl]; exact i0)
   | exact dflt_one (by with_unfolding_all rfl) (.int 0 _)
   | exact dflt_one (by with_unfolding_all rfl) (.int 64 _)
noncomputable def mkHead (k : Nat) : FD := [(oS "type", .str (kname k)), (oS "time", .int 0)]
noncomputable def mkD (k : Nat) : FD := mkHead k ++ (vnames k).map fun key => (key, mdfl key)
theorem mk_facts {k : Nat} (hk : k < 18) : ((mkHead k).map (·.1) ++ vnames k).Nodup /\ (vnames k).length <= 3 /\ ∀ name ∈ vnames k, name ∈ [oS "channel", oS "control", oS "data", oS "frame_type", oS "frame_value", oS "note", oS "pitch", oS "pos", oS "program", oS "song", oS "value", oS "velocity"] := by
 refine lt18 (p := fun k => ((mkHead k).map (·.1) ++ vnames k).Nodup /\ (vnames k).length <= 3 /\ ∀ name ∈ vnames k, name ∈ [oS "channel", oS "control", oS "data", oS "frame_type", oS "frame_value", oS "note", oS "pitch", oS "pos", oS "program", oS "song", oS "value", oS "velocity"]) ⟨?_, ?_, ?_, ?_, ?_, ?_, ?_, ?_, ?_, ?_, ?_, ?_, ?_, ?_, ?_, ?_, ?_, ?_⟩ hk
 all_goals decide +kernel
noncomputable def MkInv (w : World) (k : Nat) (d : Addr) (od : Addr) (gs : Array GenState) (i : Nat) (c : Obj) (m : Str -> Option Value) (g : Array GenState) : Prop :=
 g = gs /\ DictIs rW.prog w (T86 w) d c (mkHead k ++ ((vnames k).map fun key => (key, mdfl key)).take i) /\ m (oS "overrides") = some (.ref od) /\ m (oS "msg") = some (.ref d)
theorem make_msgdict (w : World) (news : List (Addr × Obj)) {k : Nat} (hk : k < 18) {t : Tok} {od : Addr} {oo : Obj} {OV : FD} {T : List (Addr × Obj)} (hm : (od, oo) ∈ news) (hO : DictIs rW.prog w T od oo OV) (hz : OV.length <= 20) :
  Gives w 93 1 3 [.str (kname k) t, .ref od] [] news (fun r new => ∃ (d : Addr) (o : Obj), r = .ref d /\ new = [(d, o)] /\ DictIs rW.prog w (T86 w ++ T) d o (dMerge (mkD k) OV)) := by
 refine entr 0 0 [(oS "type_", .str (kname k) t), (oS "overrides", .ref od)] (fun A g L s m a F hm' N => ?_)
 have e1 := hm' _ (.head _)
 have e2 := hm' _ (.tail _ (.head _))
 clear hm'
 dsimp only at e1 e2
 obtain ⟨es, n, sl, sk, sn⟩ := specs_lk w.params
 obtain ⟨es2, n2, sl2, sk2, sv, _⟩ := spec_lk w.params hk
 obtain ⟨⟨es3, n3, dl, dk⟩, ⟨t0, dt⟩, dv⟩ := dflt_lk w
 obtain ⟨l, vlk, vks⟩ := vals_lk w.params hk
 obtain ⟨hnd, hvl, hvn⟩ := mk_facts hk
 have G := fun {h m} (F : Fr g L h m) => a.gl.keeps F.keep
 refine st_if (EvT.kIn F a.K sl sk (sn k hk) (by decide) (Ev.nmS F e1) (Ev.glob (G F) (by k_is))) (fun tk _ => ?_) (fun tk hb => nomatch hb)
 refine st_assign F N (Ev.kItem F a.K sl sk (sn k hk) (Ev.glob (G F) (by k_is)) (Ev.nmS F e1)) ?_
 rintro _ h1 tk1 rfl F1 N1
 refine st_nil ?_
 clear F N
 refine st_assignN rfl F1 N1 (EvN.dict2 (v1 := .str (kname k)) (v2 := .int 0) a (by decide) (fun h F N => Ev.mono (Ev.nmS F e1) ?_) (fun h F N => Ev.mono (Ev.kItem F a.K dl dk dt (Ev.glob (G F) (by k_is)) Ev.str) ?_)) ?_
 ·rintro _ ⟨_, rfl⟩; exact .str _ _
 ·rintro _ rfl; exact .int _ _
 intro y81 y82 h2 tk2 y83 l1 F2 N2
 obtain ⟨d, o1, hd, rfl, rfl⟩ := y83
 have hab : ∀ q ∈ news, q.1 ≠ d := fun q hq => l1 q hq _ (.head _)
 clear F1 N1 l1
 refine st_for (σ := Obj) true (Ev.kItem F2 a.K sl2 sk2 sv (Ev.nm F2 rfl) Ev.str) a.hh (fun c => [(d, c)]) (MkInv w k d od s.gens) o1 [d] news rfl rfl F2 N2
   (fun q hq hq' => hab q hq (zS.mp hq')) (fun a ha => by rw [zS.mp ha]; exact ⟨_, .head _⟩) (.inl (a.K _ _ vlk)) ⟨rfl, by simpa [mkHead] using hd (T86 w), e2, rfl⟩ ?_ ?_ ?_ passes_never
 ·intro i o m g y81 p hp
  obtain ⟨_, hd, _⟩ := y81
  rw [zS.mp hp]
  exact hd.plain
 ·clear N2 F2
  intro i o2 m2 h gs tk rest v hv y81 hr hs F N
  obtain ⟨rfl, hd, e2, e3⟩ := y81
  obtain ⟨key, tky, rfl, hkey⟩ := strs_get vks hv
  obtain ⟨hn1, hn2⟩ := put_next (f := mdfl) hnd hkey
  have hmem : key ∈ vnames k := List.mem_of_getElem? hkey
  obtain ⟨x, hx, hix⟩ := dv key (hvn key hmem)
  have hrd : ∀ q ∈ rest, q.1 ≠ d := fun q hq e => hr q hq (zS.mpr e)
  refine st_item F N (Ev.kItem F a.K dl dk hx (Ev.glob (G F) (by k_is)) (Ev.nmS F rfl)) (Ev.nm F e3) (Ev.nmS F rfl) (.head hrd) hd (by rintro _ rfl; exact hix) ?_ fun h' o' tk' F' N' hd' => ?_
  ·rw [List.length_append, List.length_take, List.length_map]; show 2 + _ <= _; omega
  ·refine st_nil ⟨o', _, h', _, tk', rest, rfl, F', N', fun _ => id, fun q hq e => hrd q hq (zS.mp e), rfl, ?_, e2, e3⟩
   rw [dPut_new hn1, List.append_assoc, <- hn2] at hd'
   exact hd'
 ·intro o2 m2 h gs tk y81 F N
  obtain ⟨rfl, hd, e2, e3⟩ := y81
  have hall : ((vnames k).map fun key => (key, mdfl key)).take l.length = (vnames k).map fun key => (key, mdfl key) := List.take_of_length_le (by rw [strs_len vks, List.length_map]; exact Nat.le_refl _)
  rw [hall] at hd
  have hne : d ≠ od := fun e => hab _ hm e.symm
  refine st_update F N (Ev.nm F e3) (Ev.nm F e2) (.head hab) (.head _) (hd.mono fun p hp => zL T hp) (.tail _ hm) (hO.mono fun p hp => zR (T86 w) hp) hne ?_ fun h' o' tk' F' N' hd' => ?_
  ·rw [List.length_append, List.length_map]; show 2 + _ + _ <= _; omega
  ·refine st_ret (Ev.nm F' e3) ?_
   rintro _ tk rfl
   exact ⟨[(d, o')], h', tk, m2, rfl, F', N', fun q hq x hx => by rw [zS.mp hx]; exact hab q hq, d, o', rfl, rfl, hd'⟩
noncomputable def sixN : List Str := [oS "control", oS "note", oS "program", oS "song", oS "value", oS "velocity"]
noncomputable def inR (x : FV) (lo hi : Int) : Prop := ∃ n, x = .int n /\ lo <= n /\ n <= hi
noncomputable def okV (name : Str) (x : FV) : Prop :=
 if (name == oS "channel") = true then inR x (0) 15 else
 if (name == oS "data") = true then ∃ ns, x = .tup ns /\ ∀ n ∈ ns, 0 <= n /\ n <= 127 else
 if (name == oS "frame_type") = true then inR x (0) 7 else
 if (name == oS "frame_value") = true then inR x (0) 15 else
 if (name == oS "pitch") = true then inR x (-8192) 8191 else
 if (name == oS "pos") = true then inR x (0) 16383 else
 if (name == oS "time") = true then ∃ n, x = .int n else
 if (name == oS "type") = true then ∃ k, k < 18 /\ x = .str (kname k) else
 (sixN.any (· == name) = true /\ inR x 0 127)
section
variable {prog : Program} {w : World} {A : Around} {env : Env} {h hZ : Heap} {L : Addr} {m : Str -> Option Value} {news : List (Addr × Obj)} {e eAZ eB : Expr} {R : Value -> Prop} {RN : Value -> List (Addr × Obj) -> Prop} {x : Str} {pos pA pB : Pos} {s : Shared} {Q : Flow -> Shared -> Prop} {E : Value -> Shared -> Prop} {rest body orelse : List Stmt}
theorem st_ifInTup {ys : List Str} (F : Fr hZ L s.heap m) (N : News hZ L s.heap news) (h1 : Ev (model prog w) A env s.heap eAZ (IsS x)) (h2 : EvN (model prog w) A env hZ L m news eB (fun v new => ∃ a vs, StrsAre vs ys /\ v = .ref a /\ new = [(a, ({ cls := .type "tuple", data := .seq vs.toArray 0 } : Obj))]))
  (ht : ∀ h' tk, ys.any (· == x) = true -> Fr hZ L h' m -> News hZ L h' news -> wpAny (model prog w) A (execs body env) Q E (St s h' tk))
  (hf : ∀ h' tk, ys.any (· == x) = false -> Fr hZ L h' m -> News hZ L h' news -> wpAny (model prog w) A (execs orelse env) Q E (St s h' tk))
  (hb : autoParam (behindInMarks .In eB = false) tA0) : wpAny (model prog w) A (execs [.If (.Compare eAZ [.In] [eB] pA) body orelse pos] env) Q E s := by
 have fin : ∀ {t : List Stmt} {s' : Shared}, wpAny (model prog w) A (execs t env) Q E s' -> wpAny (model prog w) A (execs t env) (fun f s' => match f with | .next => wpAny (model prog w) A (execs [] env) Q E s' | f => Q f s') E s' := fun h => wpAny_mono h (fun f s' h => by cases f <;> first | exact h | exact wpAny_execs_nil h) fun _ _ x => x
 refine wpAny_execs_cons (wpAny_If (wpAny_isTrue_Compare1 (h1 s _ E rfl fun u tk hu => h2 (Tk s tk) _ E F N fun v new h' tk' hv hl F' N' => ?_) hb))
 obtain ⟨t, rfl⟩ := hu
 obtain ⟨a, vs, hst, rfl, rfl⟩ := hv
 refine in_tuple_strs (ys := ys) ⟨_, (N' _ (.head _)).1, rfl, 0, rfl⟩ (by simpa using hst) (wpAny_truthy_bool ?_)
 have N2 : News hZ L h' news := fun p hp => N' p (.tail _ hp)
 cases hc : ys.any (· == x) with
 | true => rw [if_pos rfl]; exact fin (ht h' tk' hc F' N2)
 | false => rw [if_neg Bool.false_ne_true]; exact fin (hf h' tk' hc F' N2)
end
theorem check_type (w : World) (news : List (Addr × Obj)) {k : Nat} (hk : k < 18) {t : Tok} : Gives w 100 1 3 [.str (kname k) t] [] news NoneNew := by
 refine entr 0 0 [(oS "type_", .str (kname k) t)] (fun A g L s m a F hm N => ?_)
 have e1 := hm _ (.head _)
 obtain ⟨es, n, sl, sk, sn⟩ := specs_lk w.params
 exact st_if1 (EvT.kNotIn F a.K sl sk (sn k hk) (by decide) (Ev.nmS F e1) (Ev.glob (a.gl.keeps F.keep) (by k_is))) (fun tk hb => nomatch hb) (fun tk _ => st_nil (ret_none F N))
theorem vin_int {T : List (Addr × Obj)} {v : Value} {n : Int} (h : VIn T v (.int n)) : ∃ t, v = .int n t := by cases h; exact ⟨_, rfl⟩
theorem vin_str {T : List (Addr × Obj)} {v : Value} {x : Str} (h : VIn T v (.str x)) : ∃ t, v = .str x t := by cases h; exact ⟨_, rfl⟩
theorem check_value (w : World) (news : List (Addr × Obj)) {T : List (Addr × Obj)} {name : Str} {t : Tok} {v : Value} {x : FV} (hv : VIn T v x) (hT : TOk w T news) (hok : okV name x) : Gives w 163 3 9 [.str name t, v] [] news NoneNew := by
 refine entr 2 6 [(oS "name", .str name t), (oS "value", v)] (fun A g L s m a F hm N => ?_)
 have e1 := hm _ (.head _)
 have e2 := hm _ (.tail _ (.head _))
 clear hm
 dsimp only at e1 e2
 unfold okV at hok
 have a1 := a.less (D' := 1) (U' := 3) (by decide) (by decide)
 have G := fun {h} (F : Fr g L h m) => a.gl.keeps F.keep
 have done : ∀ {env : Env} {v' : Value} {new : List (Addr × Obj)} {h' : Heap} {tk' : Nat}, NoneNew v' new -> Fr g L h' m -> News g L h' (new ++ news) -> wpAny (model rW.prog w) A (execs [] env) (Ret g L news s NoneNew) Never (St s h' tk') := by
  intro y81 y82 y83 h' tk' y84 F' N'
  obtain ⟨rfl, rfl⟩ := y84
  exact st_nil (ret_none F' N')
 refine st_if1 (EvT.eqS (Ev.nmS F e1) Ev.str) (fun tk b => ?_) (fun tk b => ?_)
 ·rw [if_pos b] at hok
  obtain ⟨n, rfl, h0, h1⟩ := hok
  obtain ⟨u, rfl⟩ := vin_int hv
  exact st_exprN F N (EvN.fn (RN := NoneNew) a1 (fun h F N => Ev.glob (G F) (by k_is)) (by k_is) (fun h F N => EvL.one (Ev.nmI F e2)) (fun vs hvs => by obtain ⟨_, rfl, u, rfl⟩ := hvs; exact check_channel w _ h0 h1)) fun _ _ _ _ hv' _ F' N' => done hv' F' N'
 rw [if_neg (ne_true_of_eq_false b)] at hok
 refine st_if1 (EvT.eqS (Ev.nmS F e1) Ev.str) (fun tk b => ?_) (fun tk b => ?_)
 ·rw [if_pos b] at hok
  obtain ⟨ns, rfl, h0⟩ := hok
  exact st_exprN F N (EvN.fn (RN := NoneNew) a (fun h F N => Ev.glob (G F) (by k_is)) (by k_is) (fun h F N => EvL.one (Ev.nm F e2)) (fun vs hvs => by obtain ⟨_, rfl, rfl⟩ := hvs; exact check_data w _ hv hT h0)) fun _ _ _ _ hv' _ F' N' => done hv' F' N'
 rw [if_neg (ne_true_of_eq_false b)] at hok
 refine st_if1 (EvT.eqS (Ev.nmS F e1) Ev.str) (fun tk b => ?_) (fun tk b => ?_)
 ·rw [if_pos b] at hok
  obtain ⟨n, rfl, h0, h1⟩ := hok
  obtain ⟨u, rfl⟩ := vin_int hv
  exact st_exprN F N (EvN.fn (RN := NoneNew) a1 (fun h F N => Ev.glob (G F) (by k_is)) (by k_is) (fun h F N => EvL.one (Ev.nmI F e2)) (fun vs hvs => by obtain ⟨_, rfl, u, rfl⟩ := hvs; exact check_frame_type w _ h0 h1)) fun _ _ _ _ hv' _ F' N' => done hv' F' N'
 rw [if_neg (ne_true_of_eq_false b)] at hok
 refine st_if1 (EvT.eqS (Ev.nmS F e1) Ev.str) (fun tk b => ?_) (fun tk b => ?_)
 ·rw [if_pos b] at hok
  obtain ⟨n, rfl, h0, h1⟩ := hok
  obtain ⟨u, rfl⟩ := vin_int hv
  exact st_exprN F N (EvN.fn (RN := NoneNew) a1 (fun h F N => Ev.glob (G F) (by k_is)) (by k_is) (fun h F N => EvL.one (Ev.nmI F e2)) (fun vs hvs => by obtain ⟨_, rfl, u, rfl⟩ := hvs; exact check_frame_value w _ h0 h1)) fun _ _ _ _ hv' _ F' N' => done hv' F' N'
 rw [if_neg (ne_true_of_eq_false b)] at hok
 refine st_if1 (EvT.eqS (Ev.nmS F e1) Ev.str) (fun tk b => ?_) (fun tk b => ?_)
 ·rw [if_pos b] at hok
  obtain ⟨n, rfl, h0, h1⟩ := hok
  obtain ⟨u, rfl⟩ := vin_int hv
  exact st_exprN F N (EvN.fn (RN := NoneNew) a1 (fun h F N => Ev.glob (G F) (by k_is)) (by k_is) (fun h F N => EvL.one (Ev.nmI F e2)) (fun vs hvs => by obtain ⟨_, rfl, u, rfl⟩ := hvs; exact check_pitch w _ h0 h1)) fun _ _ _ _ hv' _ F' N' => done hv' F' N'
 rw [if_neg (ne_true_of_eq_false b)] at hok
 refine st_if1 (EvT.eqS (Ev.nmS F e1) Ev.str) (fun tk b => ?_) (fun tk b => ?_)
 ·rw [if_pos b] at hok
  obtain ⟨n, rfl, h0, h1⟩ := hok
  obtain ⟨u, rfl⟩ := vin_int hv
  exact st_exprN F N (EvN.fn (RN := NoneNew) a1 (fun h F N => Ev.glob (G F) (by k_is)) (by k_is) (fun h F N => EvL.one (Ev.nmI F e2)) (fun vs hvs => by obtain ⟨_, rfl, u, rfl⟩ := hvs; exact check_pos w _ h0 h1)) fun _ _ _ _ hv' _ F' N' => done hv' F' N'
 rw [if_neg (ne_true_of_eq_false b)] at hok
 refine st_if1 (EvT.eqS (Ev.nmS F e1) Ev.str) (fun tk b => ?_) (fun tk b => ?_)
 ·rw [if_pos b] at hok
  obtain ⟨n, rfl⟩ := hok
  obtain ⟨u, rfl⟩ := vin_int hv
  exact st_exprN F N (EvN.fn (RN := NoneNew) a1 (fun h F N => Ev.glob (G F) (by k_is)) (by k_is) (fun h F N => EvL.one (Ev.nmI F e2)) (fun vs hvs => by obtain ⟨_, rfl, u, rfl⟩ := hvs; exact check_time w _)) fun _ _ _ _ hv' _ F' N' => done hv' F' N'
 rw [if_neg (ne_true_of_eq_false b)] at hok
 refine st_if1 (EvT.eqS (Ev.nmS F e1) Ev.str) (fun tk b => ?_) (fun tk b => ?_)
 ·rw [if_pos b] at hok
  obtain ⟨k, hk, rfl⟩ := hok
  obtain ⟨u, rfl⟩ := vin_str hv
  exact st_exprN F N (EvN.fn (RN := NoneNew) a1 (fun h F N => Ev.glob (G F) (by k_is)) (by k_is) (fun h F N => EvL.one (Ev.nmS F e2)) (fun vs hvs => by obtain ⟨_, rfl, u, rfl⟩ := hvs; exact check_type w _ hk)) fun _ _ _ _ hv' _ F' N' => done hv' F' N'
 rw [if_neg (ne_true_of_eq_false b)] at hok
 obtain ⟨hs, n, rfl, h0, h1⟩ := hok
 obtain ⟨u, rfl⟩ := vin_int hv
 refine st_ifInTup (ys := sixN) F N (Ev.nmS F e1) (EvN.mono (EvN.tup (fun h F N => EvL.cons Ev.str (EvL.cons Ev.str (EvL.cons Ev.str (EvL.cons Ev.str (EvL.cons Ev.str (EvL.one Ev.str)))))) ?_) ?_) (fun h' tk _ F N => ?_) (fun h' tk b _ _ => by rw [hs] at b; cases b)
 ·rintro _ ⟨_, _, rfl, _, _, _, rfl, _, _, _, rfl, _, _, _, rfl, _, _, _, rfl, _, _, rfl, _⟩; exact Nat.le_of_ble_eq_true rfl
 ·rintro _ _ ⟨a, vs, ⟨_, _, rfl, ⟨_, rfl⟩, _, _, rfl, ⟨_, rfl⟩, _, _, rfl, ⟨_, rfl⟩, _, _, rfl, ⟨_, rfl⟩, _, _, rfl, ⟨_, rfl⟩, _, rfl, ⟨_, rfl⟩⟩, rfl, rfl⟩
  exact ⟨a, _, .cons _ _ (.cons _ _ (.cons _ _ (.cons _ _ (.cons _ _ (.cons _ _ .nil))))), rfl, rfl⟩
 ·exact st_exprN F N (EvN.fn (RN := NoneNew) a1 (fun h F N => Ev.glob (G F) (by k_is)) (by k_is) (fun h F N => EvL.one (Ev.nmI F e2)) (fun vs hvs => by obtain ⟨_, rfl, u, rfl⟩ := hvs; exact check_data_byte w _ h0 h1)) fun _ _ _ _ hv' _ F' N' => done hv' F' N'
open PySem.Builtin PySem.Builtin.Str in
theorem at_one (x : Str) (c i : Nat) : StrLaws.At x ⟨#[c]⟩ x.length i ↔ x.cps.toList[i]? = some c := by
 unfold StrLaws.At subAt
 have hl : (⟨#[c]⟩ : Str).length = 1 := rfl
 rw [hl]
 have hx : x.length = x.cps.toList.length := by show x.cps.size = _; simp
 constructor
 ·rintro ⟨h1, h2⟩
  have h3 := eq_of_beq h2
  have h4 := congrArg Array.toList h3
  simp only [Array.toList_extract, List.extract] at h4
  have hi : i < x.cps.toList.length := by omega
  rw [List.drop_eq_getElem_cons hi] at h4
  rw [List.getElem?_eq_getElem hi]
  simpa using h4
 ·intro h
  obtain ⟨hi, he⟩ := List.getElem?_eq_some_iff.mp h
  refine ⟨by omega, ?_⟩
  rw [beq_iff_eq]
  apply Array.toList_inj.mp
  simp only [Array.toList_extract, List.extract]
  rw [List.drop_eq_getElem_cons hi]
  simpa using he
theorem cps_app (a b : Str) : (a ++ b).cps.toList = a.cps.toList ++ b.cps.toList := by
 show (a.cps ++ b.cps).toList = _
 simp
theorem str_eq {a b : Str} (h : a.cps.toList = b.cps.toList) : a = b := by
 cases a; cases b
 exact congrArg Str.mk (Array.toList_inj.mp h)
theorem first_at {a b : Str} {c : Nat} (hc : c ∉ a.cps.toList) {i : Nat} (h : (a ++ (⟨#[c]⟩ ++ b)).cps.toList[i]? = some c) (hmin : ∀ k, k < i -> ¬ (a ++ (⟨#[c]⟩ ++ b)).cps.toList[k]? = some c) : i = a.cps.toList.length := by
 rw [cps_app, cps_app] at h hmin
 have hat : (a.cps.toList ++ ((⟨#[c]⟩ : Str).cps.toList ++ b.cps.toList))[a.cps.toList.length]? = some c := by
  rw [List.getElem?_append_right (Nat.le_refl _), Nat.sub_self]; rfl
 rcases Nat.lt_trichotomy i a.cps.toList.length with q | q | q
 ·rw [List.getElem?_append_left q] at h
  exact absurd (List.mem_of_getElem? h) hc
 ·exact q
 ·exact absurd hat (hmin _ q)
open PySem.Builtin PySem.Builtin.Str PySem.StrLaws in
theorem sub_front (a b : Str) : strSub (a ++ b) 0 a.cps.toList.length = a := by
 apply str_eq
 rw [strSub_toList, cps_app]
 simp
open PySem.Builtin PySem.Builtin.Str PySem.StrLaws in
theorem sub_back (a b : Str) : strSub (a ++ b) a.cps.toList.length (a ++ b).length = b := by
 apply str_eq
 rw [strSub_toList, cps_app]
 have : (a ++ b).length = a.cps.toList.length + b.cps.toList.length := by rw [len_append]; show a.cps.size + b.cps.size = _; simp
 rw [this]
 simp only [List.drop_left, Nat.add_sub_cancel_left, List.take_length]
theorem kind_one {c : Nat} (h : c < 256) : Builtin.Str.strKind ⟨#[c]⟩ = 1 := by
 unfold Builtin.Str.strKind
 rw [if_pos]
 simp [h]
theorem splitMax_first {a b : Str} {c : Nat} (hc : c ∉ a.cps.toList) (h256 : c < 256) : Txt.splitMax (a ++ (⟨#[c]⟩ ++ b)) ⟨#[c]⟩ 1 = [a, b] := by
 have hat : StrLaws.At (a ++ (⟨#[c]⟩ ++ b)) ⟨#[c]⟩ (a ++ (⟨#[c]⟩ ++ b)).length a.cps.toList.length := by
  rw [at_one, cps_app, cps_app, List.getElem?_append_right (Nat.le_refl _), Nat.sub_self]; rfl
 have hlen : (a ++ (⟨#[c]⟩ ++ b)).length = a.cps.toList.length + (1 + b.cps.toList.length) := by rw [len_append, len_append]; show a.cps.size + (1 + b.cps.size) = _; simp
 unfold Txt.splitMax
 rcases StrLaws.occ_head (a ++ (⟨#[c]⟩ ++ b)) ⟨#[c]⟩ (limitOf (a ++ (⟨#[c]⟩ ++ b)) 1) (Nat.le_refl 1) with ⟨_, hn⟩ | ⟨i, r, ho, hi, hmin⟩
 ·exact absurd hat (hn _)
 ·have hr : r = [] := by
   have := StrLaws.occ_length_le (a ++ (⟨#[c]⟩ ++ b)) ⟨#[c]⟩ 0 (a ++ (⟨#[c]⟩ ++ b)).length (limitOf (a ++ (⟨#[c]⟩ ++ b)) 1)
   rw [ho] at this
   have h1 : limitOf (a ++ (⟨#[c]⟩ ++ b)) 1 = 1 := rfl
   rw [h1, List.length_cons] at this
   exact List.length_eq_zero_iff.mp (by omega)
  subst hr
  have hii := first_at hc ((at_one _ _ _).mp hi) (fun k hk h => hmin k hk ((at_one _ _ _).mpr h))
  subst hii
  rw [ho, if_neg, if_neg (by simp)]
  ·show [Builtin.Str.strSub (a ++ (⟨#[c]⟩ ++ b)) 0 a.cps.toList.length, Builtin.Str.strSub (a ++ (⟨#[c]⟩ ++ b)) (a.cps.toList.length + 1) (a ++ (⟨#[c]⟩ ++ b)).length] = [a, b]
   rw [sub_front]
   have e : a ++ (⟨#[c]⟩ ++ b) = (a ++ ⟨#[c]⟩) ++ b := str_eq (by simp only [cps_app, List.append_assoc])
   have e2 : a.cps.toList.length + 1 = (a ++ (⟨#[c]⟩ : Str)).cps.toList.length := by rw [cps_app]; simp
   rw [e, e2, sub_back]
  ·rw [kind_one h256, Bool.or_eq_true, decide_eq_true_eq, decide_eq_true_eq, hlen]
   have := strKind_pos (a ++ (⟨#[c]⟩ ++ b))
   show ¬ (_ < 1 ∨ _)
   omega
theorem split_first {a b : Str} {c : Nat} (hc : c ∉ a.cps.toList) (h256 : c < 256) : (Txt.split (a ++ (⟨#[c]⟩ ++ b)) ⟨#[c]⟩)[0]? = some a := by
 obtain ⟨z, hz⟩ : ∃ z, (Txt.split (a ++ (⟨#[c]⟩ ++ b)) ⟨#[c]⟩)[0]? = some z := by
  have := split_pos (a ++ (⟨#[c]⟩ ++ b)) ⟨#[c]⟩
  cases h : Txt.split (a ++ (⟨#[c]⟩ ++ b)) ⟨#[c]⟩ with
  | nil => rw [h] at this; simp at this
  | cons z _ => exact ⟨z, rfl⟩
 rw [hz]
 rcases split_head _ _ (kind_one h256) z hz with ⟨_, hn⟩ | ⟨i, rfl, hi, hmin⟩
 ·exact absurd ((at_one _ _ a.cps.toList.length).mpr (by rw [cps_app, cps_app, List.getElem?_append_right (Nat.le_refl _), Nat.sub_self]; rfl)) (hn _)
 ·rw [first_at hc ((at_one _ _ _).mp hi) (fun k hk h => hmin k hk ((at_one _ _ _).mpr h)), sub_front]
theorem split_none {a : Str} {c : Nat} (hc : c ∉ a.cps.toList) (h256 : c < 256) : (Txt.split a ⟨#[c]⟩)[0]? = some a := by
 obtain ⟨z, hz⟩ : ∃ z, (Txt.split a ⟨#[c]⟩)[0]? = some z := by
  have := split_pos a ⟨#[c]⟩
  cases h : Txt.split a ⟨#[c]⟩ with
  | nil => rw [h] at this; simp at this
  | cons z _ => exact ⟨z, rfl⟩
 rw [hz]
 rcases split_head _ _ (kind_one h256) z hz with ⟨rfl, _⟩ | ⟨i, rfl, hi, hmin⟩
 ·rfl
 ·exact absurd (List.mem_of_getElem? ((at_one _ _ _).mp hi)) hc
noncomputable abbrev NoSp (x : Str) : Prop := ∀ c ∈ x.cps.toList, Unicode.isSpace c = false
noncomputable abbrev AllSp (x : Str) : Prop := ∀ c ∈ x.cps.toList, Unicode.isSpace c = true
noncomputable def sc (st : KWd.St) (x : Str) : KWd.St := x.cps.toList.foldl KWd.step st
theorem sc_append (st : KWd.St) (a b : Str) : sc st (a ++ b) = sc (sc st a) b := by
 unfold sc; rw [cps_app, List.foldl_append]
theorem words_sc (x : Str) : Txt.words x = KWd.fin (sc ([], Str.empty) x) := KWd.words_scan x
theorem sc_word {d : List Str} {x : Str} (h : NoSp x) (r : Str) : sc (d, r) x = (d, r ++ x) := by
 have key : ∀ (l : List Nat) (r : Str), (∀ c ∈ l, Unicode.isSpace c = false) -> l.foldl KWd.step (d, r) = (d, r ++ ⟨l.toArray⟩) := by
  intro l
  induction l with
  | nil => intro r _; exact Prod.ext rfl (str_eq (by rw [cps_app]; simp))
  | cons c l ih =>
   intro r h
   rw [List.foldl_cons]
   have : KWd.step (d, r) c = (d, r ++ ⟨#[c]⟩) := by unfold KWd.step; rw [if_neg (by rw [h c (.head _)]; decide)]
   rw [this, ih _ fun z hz => h z (.tail _ hz)]
   exact Prod.ext rfl (str_eq (by simp only [cps_app, List.append_assoc]; simp))
 unfold sc
 rw [key _ _ h]
theorem sc_blank0 {d : List Str} {x : Str} (h : AllSp x) : sc (d, Str.empty) x = (d, Str.empty) := by
 unfold sc
 have key : ∀ (l : List Nat), (∀ c ∈ l, Unicode.isSpace c = true) -> l.foldl KWd.step (d, Str.empty) = (d, Str.empty) := by
  intro l
  induction l with
  | nil => intro _; rfl
  | cons c l ih =>
   intro h
   rw [List.foldl_cons]
   have : KWd.step (d, Str.empty) c = (d, Str.empty) := by unfold KWd.step; rw [if_pos (h c (.head _))]; exact if_pos rfl
   rw [this]
   exact ih fun z hz => h z (.tail _ hz)
 exact key _ h
theorem sc_blank {d : List Str} {x r : Str} (h : AllSp x) (hx : x.cps.toList ≠ []) (hr : r.length ≠ 0) : sc (d, r) x = (d ++ [r], Str.empty) := by
 cases hl : x.cps.toList with
 | nil => exact absurd hl hx
 | cons c l =>
  have hxx : x = ⟨#[c]⟩ ++ ⟨l.toArray⟩ := str_eq (by rw [cps_app, hl]; simp)
  have h1 : sc (d, r) ⟨#[c]⟩ = (d ++ [r], Str.empty) := by
   show KWd.step (d, r) c = _
   unfold KWd.step
   rw [if_pos (h c (by rw [hl]; exact .head _)), if_neg hr]
  rw [hxx, sc_append, h1]
  exact sc_blank0 (x := ⟨l.toArray⟩) fun z hz => h z (by rw [hl]; exact List.mem_cons_of_mem _ (by simpa using hz))
noncomputable abbrev IsWord (x : Str) : Prop := NoSp x /\ x.length ≠ 0
theorem sc_join {sep : Str} (hs : AllSp sep) (hs0 : sep.cps.toList ≠ []) {ws : List Str} (d : List Str) (h : ∀ x ∈ ws, IsWord x) (hn : ws ≠ []) :
  ∃ ini last, ws = ini ++ [last] /\ sc (d, Str.empty) (Txt.join sep ws) = (d ++ ini, last) := by
 induction ws generalizing d with
 | nil => exact absurd rfl hn
 | cons x ws ih =>
 have hx := h x (.head _)
 have h0 : (Str.empty ++ x) = x := str_eq (by rw [cps_app]; rfl)
 cases ws with
 | nil => exact ⟨[], x, rfl, by rw [join_one, sc_word hx.1, List.append_nil, h0]⟩
 | cons y ws =>
  obtain ⟨ini, last, e, hsc⟩ := ih (d ++ [x]) (fun z hz => h z (.tail _ hz)) (List.cons_ne_nil _ _)
  exact ⟨x :: ini, last, by rw [e]; rfl, by rw [join_cons, sc_append, sc_append, sc_word hx.1, h0, sc_blank hs hs0 hx.2, hsc, List.append_assoc]; rfl⟩
theorem fin_last {d : List Str} {r : Str} (h : r.length ≠ 0) : KWd.fin (d, r) = d ++ [r] := by unfold KWd.fin; rw [if_neg h]
theorem words_join {sep pre post : Str} (hs : AllSp sep) (hs0 : sep.cps.toList ≠ []) (hp : AllSp pre) (hq : AllSp post) {ws : List Str} (h : ∀ x ∈ ws, IsWord x) (hne : ws ≠ []) : Txt.words (pre ++ (Txt.join sep ws ++ post)) = ws := by
 rw [words_sc, sc_append, sc_append, sc_blank0 hp]
 obtain ⟨ini, last, e, hsc⟩ := sc_join hs hs0 [] h hne
 have hl := h last (by rw [e]; simp)
 rw [hsc, List.nil_append]
 by_cases h0 : post.cps.toList = []
 ·have : sc (ini, last) post = (ini, last) := by unfold sc; rw [h0]; rfl
  rw [this, fin_last hl.2, e]
 ·rw [sc_blank hq h0 hl.2, e]; rfl
open PySem.NumText
theorem nat_text (m : Nat) : AllDigits (intStr (m : Int)).cps.toList /\ (intStr (m : Int)).cps.toList ≠ [] /\ digitsVal (intStr (m : Int)).cps.toList = m := by
 refine ⟨?_, ?_, by rw [KIN.signs_num, KIN.val_back]⟩
 ·intro c hc
  rw [KIN.signs_num] at hc
  obtain ⟨ch, hch, e⟩ := List.mem_map.mp hc
  have r := digit_range (Nat.isDigit_of_mem_toDigits (by decide) (by decide) hch)
  rw [<- e]
  exact r
 ·rw [KIN.signs_num]
  intro e
  have h := toDigits_len_ge 10 m
  rw [List.map_eq_nil_iff.mp e] at h
  exact absurd h (by decide)
theorem neg_text (m : Nat) : (intStr (-((m + 1 : Nat) : Int))).cps.toList = 45 :: (intStr ((m + 1 : Nat) : Int)).cps.toList := by
 rw [signs_ofString, signs_ofString]
 have : (toString (-((m + 1 : Nat) : Int))).toList = '-' :: (toString (((m + 1 : Nat) : Int))).toList := by
  show (toString (Int.negSucc m)).toList = _
  show ("-" ++ Nat.repr (m + 1)).toList = '-' :: (Nat.repr (m + 1)).toList
  rw [String.toList_append]; rfl
 rw [this]; rfl
theorem int_reads {n : Int} (h : Small n) : PySem.intText? (intStr n) = some n := by
 by_cases h0 : 0 <= n
 ·exact KIN.num_reads h0 (by have := h.2; omega)
 ·obtain ⟨m, rfl⟩ : ∃ m : Nat, n = -((m + 1 : Nat) : Int) := ⟨(-n - 1).toNat, by omega⟩
  obtain ⟨h1, h2, h3⟩ := nat_text (m + 1)
  have := intText_neg (neg_text m) h1 h2 (by have := intStr_len h; omega)
  rw [this, h3]
theorem int_signs {n : Int} {c : Nat} (hc : c ∈ (intStr n).cps.toList) : c = 45 ∨ (48 <= c /\ c <= 57) := by
 by_cases h : c = 45
 ·exact .inl h
 ·refine .inr ?_
  refine Classical.byContradiction fun hn => int_text_free' c ⟨h, by omega⟩ n hc
theorem int_nosp (n : Int) : NoSp (intStr n) := fun c hc => by
 rcases int_signs hc with rfl | h
 ·decide
 ·exact KWk.nosp (by omega) (by omega)
theorem lri_nolen : typeLookup (.type "list_reverseiterator") "__len__" = pure none := by rw [typeLookup_type, builtinLookup_eq_fast]; kernel_rfl
theorem lri_hint : typeLookup (.type "list_reverseiterator") "__length_hint__" = pure (some (.builtin "list_reverseiterator.__length_hint__")) := by rw [typeLookup_type, builtinLookup_eq_fast]; kernel_rfl
section
variable {prog : Program} {w : World} {A : Around} {E : Value -> Shared -> Prop} {s : Shared}
theorem lri_room {I l : Addr} {i : Int} {Q : Bool -> Shared -> Prop} (hit : s.heap.IsRevIter I l i) (h : Q false s) : wpAny (model prog w) A (Builtin.List.listLengthHint (.ref I)) Q E s := by
 unfold Builtin.List.listLengthHint
 refine wpAny_bind (wpAny_specialOf hit.typeIs lri_nolen ?_)
 show wpAny _ A (specialOf (Value.ref I) (oS "__length_hint__") >>= _) _ _ _
 refine wpAny_bind (wpAny_specialOf hit.typeIs lri_hint ?_)
 generalize hid : ("list_reverseiterator.__length_hint__" : String) = id0
 wp_delta
 rw [show splitId id0 = some ("list_reverseiterator", "__length_hint__") from by subst hid; decide +kernel]
 subst hid
 refine wpAny_bind (wpAny_isInstance (b := true) hit.typeIs (by rw [isSubtype_type]; kernel_rfl) ?_)
 refine wpAny_ite_split (fun hab => absurd hab (by decide)) (fun _ => ?_)
 refine wpAny_ite_split (fun _ => ?_) (fun hab => absurd (by decide +kernel) hab)
 refine wpAny_ite_split (fun hab => absurd hab (by decide +kernel)) (fun _ => ?_)
 exact wpAny_pure h
theorem lri_extend {R : Result -> Shared -> Prop} {I l S : Addr} {items : Array Value} {res : Value} {cZ : Nat} (hh : A.handled = none) (hz : items.size <= sizeLine) (hit : s.heap.IsRevIter I l ((items.size : Int) - 1)) (hl : s.heap.IsList l items) (hne : l ≠ I) (hSI : S ≠ I) (hSl : S ≠ l)
  (hS : s.heap.get? S = some { cls := .type "list", data := .seq #[] cZ })
  (hR : ∀ h' tk acc' c', (∀ b o, b ≠ S -> b ≠ I -> s.heap.get? b = some o -> h'.get? b = some o) -> h'.get? S = some { cls := .type "list", dict := none, data := .seq acc' c', slots := #[] } ->
   ItemsOf (fun i v => items[items.size - 1 - i]? = some v) acc' items.size -> R (.ok (.ret res)) (St s h' tk)) :
  wpAny (model prog w) A.in1 (Builtin.List.listExtendWith (.ref S) (.ref I) res)
   (fun fin s' => match fin with | .done f => R (.ok f) s' | .again c' => c'.quiet = true /\ codeAny (model prog w) A c' R s') (fun e s' => R (.error e) s') s := by
 have W := (Walks.listRev (prog := prog) (w := w) (A := A.in1) hh I l hne items).toS
 have hst : (fun i (s : Shared) => i <= items.size /\ s.heap.IsRevIter I l ((items.size : Int) - 1 - (i : Int)) /\ s.heap.IsList l items) 0 s := ⟨Nat.zero_le _, by simpa using hit, hl⟩
 have hSf : S ∉ [I, l] := fun hm => by
  rcases zC.mp hm with e | hm
  ·exact hSI e
  ·exact hSl (zS.mp hm)
 unfold Builtin.List.listExtendWith
 refine wpAny_bind (wpAny_typeOf hit.typeIs ?_)
 have h1 : Builtin.List.listSameRef (.ref S) (.ref I) = false := by simp [Builtin.List.listSameRef, hSI]
 have h2 : (Value.type "list_reverseiterator" == Value.type "list") = false := by decide
 have h3 : (Value.type "list_reverseiterator" == Value.type "tuple") = false := by decide
 simp only [h1, h2, h3, Bool.or_false, Bool.false_eq_true, if_false]
 refine wpAny_bind (wpAny_pyIter_revIter hit ?_)
 refine wpAny_bind (wpAny_holding (lri_room hit ?_))
 refine wpAny_ite_split (fun hab => absurd hab (by decide +kernel)) (fun _ => ?_)
 refine wpAny_pure ⟨plainId_quiet F.plain_extend_loop _, codeAny_extend_loopS W hz S hSf res items.size 0 _ #[] cZ rfl (Nat.zero_le _) hst hS (ItemsOf.nil _) fun s' acc' c' hm hS' hacc => ?_⟩
 rw [Moved.eq_with hm]
 refine hR s'.heap s'.toks acc' c' (fun b o hb hb2 e => hm.heap b o (fun hmem => ?_) e) hS' hacc
 rcases zC.mp hmem with e' | hmem
 ·exact hb e'
 ·exact hb2 (zS.mp hmem)
end
section
variable {prog : Program} {w : World} {A : Around} {E : Value -> Shared -> Prop} {s : Shared}
theorem lri_init {R : Result -> Shared -> Prop} {I l S : Addr} {items : Array Value} (hh : A.handled = none) (hz : items.size <= sizeLine) (hit : s.heap.IsRevIter I l ((items.size : Int) - 1)) (hl : s.heap.IsList l items) (hne : l ≠ I) (hSI : S ≠ I) (hSl : S ≠ l)
  (hS : s.heap.get? S = some { cls := .type "list", data := .seq #[] })
  (hR : ∀ h' tk acc' c', (∀ b o, b ≠ S -> b ≠ I -> s.heap.get? b = some o -> h'.get? b = some o) -> h'.get? S = some { cls := .type "list", dict := none, data := .seq acc' c', slots := #[] } ->
   ItemsOf (fun i v => items[items.size - 1 - i]? = some v) acc' items.size -> R (.ok (.ret .none)) (St s h' tk)) :
  wpAny (model prog w) A.in1 (Builtin.«list.__init__» ⟨[.ref S, .ref I], []⟩)
   (fun fin s' => match fin with | .done f => R (.ok f) s' | .again c' => c'.quiet = true /\ codeAny (model prog w) A c' R s') (fun e s' => R (.error e) s') s := by
 show wpAny _ A.in1 (do let old <- Builtin.List.listItems (.ref S); Builtin.List.listUpdate (.ref S) (fun _ => #[]); letGo old.toList.reverse; Builtin.List.listExtendWith (.ref S) (.ref I) .none) _ _ s
 refine wpAny_bind ?_
 unfold Builtin.List.listItems
 refine wpAny_bind (wpAny_seqItems hS rfl (wpAny_pure ?_))
 show wpAny _ A.in1 (updateSeq S (fun _ => #[]) >>= fun _ => letGo (#[] : Array Value).toList.reverse >>= fun _ => Builtin.List.listExtendWith (.ref S) (.ref I) .none) _ _ s
 refine wpAny_bind (wpAny_updateSeq hS rfl ?_)
 have hSB := Heap.get?_update_self (Obj.mapSeq (fun _ => (#[] : Array Value))) hS rfl
 have oth : ∀ b o, b ≠ S -> s.heap.get? b = some o -> (s.heap.update S (Obj.mapSeq (fun _ => (#[] : Array Value)))).get? b = some o :=
  fun b o hb e => (Heap.get?_update_other _ _ (Ne.symm hb)).trans e
 refine wpAny_bind (wpAny_letGo ?_)
 refine lri_extend (s := { s with heap := s.heap.update S (Obj.mapSeq (fun _ => (#[] : Array Value))) }) hh hz ?_ ?_ hne hSI hSl hSB fun h' tk acc' c' hk hS' hacc => hR h' tk acc' c' (fun b o h1 h2 e => hk b o h1 h2 (oth b o h1 e)) hS' hacc
 ·obtain ⟨o, e, r⟩ := hit
  exact ⟨o, oth _ _ hSI.symm e, r⟩
 ·obtain ⟨o, e, r⟩ := hl
  exact ⟨o, oth _ _ hSl.symm e, r⟩
theorem call_list_rev {Q : Value -> Shared -> Prop} {I l : Addr} {items : Array Value} (hh : A.handled = none) (hz : items.size <= sizeLine) (hit : s.heap.IsRevIter I l ((items.size : Int) - 1)) (hl : s.heap.IsList l items) (hne : l ≠ I)
  (hQ : ∀ h' tk acc' c', (∀ b o, b ≠ I -> s.heap.get? b = some o -> h'.get? b = some o) -> h'.get? s.heap.objs.size = some { cls := .type "list", dict := none, data := .seq acc' c', slots := #[] } ->
   ItemsOf (fun i v => items[items.size - 1 - i]? = some v) acc' items.size -> Q (.ref s.heap.objs.size) (St s h' tk)) :
  wpAny (model prog w) A (call (.type "list") [.ref I]) Q E s := by
 have hI : I < s.heap.objs.size := by obtain ⟨_, e, _⟩ := hit; exact Heap.lt_size e
 have hlt : l < s.heap.objs.size := by obtain ⟨_, e, _⟩ := hl; exact Heap.lt_size e
 refine callType_codes (Q₁ := fun obj sA => obj = .ref s.heap.objs.size /\ sA = { s with heap := s.heap.push { cls := .type "list", data := .seq #[] } }) F.called_list (F.typeCall_list_1 _) F.entry_list_init
  (code_list_new _ ⟨rfl, rfl⟩) fun obj sA hAZ => ?_
 obtain ⟨rfl, rfl⟩ := hAZ
 have hS : (s.heap.push { cls := .type "list", data := .seq #[] }).get? s.heap.objs.size = some { cls := .type "list", data := .seq #[] } := Heap.get?_push_size _ rfl
 have up : ∀ b o, s.heap.get? b = some o -> (s.heap.push { cls := .type "list", data := .seq #[] }).get? b = some o := fun b o e => Heap.get?_push_of_some _ e
 refine ⟨⟨_, hS, rfl⟩, F.args_list_init_2 _ _, lri_init (s := { s with heap := s.heap.push { cls := .type "list", data := .seq #[] } }) (A := A.in1) hh hz ?_ ?_ hne (Nat.ne_of_gt hI) (Nat.ne_of_gt hlt) hS fun h' tk acc' c' hk hS' hacc => ⟨rfl, hQ h' tk acc' c' (fun b o hb e => hk b o (fun h => ?_) hb (up b o e)) hS' hacc⟩⟩
 ·obtain ⟨o, e, r⟩ := hit
  exact ⟨o, up _ _ e, r⟩
 ·obtain ⟨o, e, r⟩ := hl
  exact ⟨o, up _ _ e, r⟩
 ·exact absurd (Heap.lt_size e) (by rw [h]; exact Nat.lt_irrefl _)
end
noncomputable def EvLN (M : Model) (A : Around) (env : Env) (hZ : Heap) (L : Addr) (m : Str -> Option Value) (news : List (Addr × Obj)) (es : List Expr) (R : List Value -> List (Addr × Obj) -> Prop) : Prop :=
 ∀ (s : Shared) (Q : List Value -> Shared -> Prop) (E : Value -> Shared -> Prop) (pos : Pos), Fr hZ L s.heap m -> News hZ L s.heap news ->
  (∀ vs new h' tk, R vs new -> (Ap news new) -> Fr hZ L h' m -> News hZ L h' (new ++ news) -> Q vs (St s h' tk)) -> wpAny M A (spliced (backTo pos (starEach es env))) Q E s
section
variable {prog : Program} {w : World} {A : Around} {env : Env} {h hZ : Heap} {L : Addr} {m : Str -> Option Value} {news : List (Addr × Obj)} {e eAZ eB : Expr} {es : List Expr} {R RA RB : Value -> Prop} {RN RN' : Value -> List (Addr × Obj) -> Prop} {RL : List Value -> Prop} {x y : Str} {pos pA pB pC : Pos} {s : Shared} {Q : Flow -> Shared -> Prop} {E : Value -> Shared -> Prop} {rest body orelse : List Stmt}
theorem EvN.of {M : Model} (h1 : ∀ h, Fr hZ L h m -> News hZ L h news -> Ev M A env h e R) : EvN M A env hZ L m news e (fun v new => R v /\ new = []) :=
 fun s Q E F N hq => h1 _ F N s _ E rfl fun v tk hv => hq v [] s.heap tk ⟨hv, rfl⟩ (fun _ _ _ hx => nomatch hx) F N
theorem EvLN.of {M : Model} (h1 : ∀ h, Fr hZ L h m -> News hZ L h news -> EvL M A env h es RL) : EvLN M A env hZ L m news es (fun vs new => RL vs /\ new = []) :=
 fun s Q E pos F N hq => h1 _ F N s _ E pos rfl fun v tk hv => hq v [] s.heap tk ⟨hv, rfl⟩ (fun _ _ _ hx => nomatch hx) F N
theorem apart_two {a b : List (Addr × Obj)} (h1 : Ap news a) (h2 : Ap (a ++ news) b) : Ap news (b ++ a) := fun q hq x hx => by
 rcases zA.mp hx with hx | hx
 ·exact h2 q (zR _ hq) x hx
 ·exact h1 q hq x hx
theorem EvLN.cons {M : Model} {RL : Value -> List (Addr × Obj) -> List Value -> List (Addr × Obj) -> Prop} (h1 : EvN M A env hZ L m news e RN) (h2 : ∀ v new, RN v new -> (Ap news new) -> EvLN M A env hZ L m (new ++ news) es (RL v new)) (hs : autoParam (starEach (e :: es) env = (false, eval e env) :: starEach es env) tA0) :
  EvLN M A env hZ L m news (e :: es) (fun vs nn => ∃ v new vs' new', vs = v :: vs' /\ nn = new' ++ new /\ RN v new /\ RL v new vs' new' /\ Ap new new') :=
 fun s Q E pos F N hq => spliced_more (h1 s _ E F N fun v new h' tk hv hl F' N' => h2 v new hv hl (St s h' tk) _ E pos F' N' fun vs new' h'' tk' hvs hl' F'' N'' =>
  hq (v :: vs) (new' ++ new) h'' tk' ⟨v, new, vs, new', rfl, rfl, hv, hvs, fun q hq => hl' q (zL _ hq)⟩ (apart_two hl hl') F'' (by rw [List.append_assoc]; exact N'')) hs
theorem EvLN.mono {M : Model} {RL RL' : List Value -> List (Addr × Obj) -> Prop} (h1 : EvLN M A env hZ L m news es RL) (hr : ∀ v new, RL v new -> RL' v new) : EvLN M A env hZ L m news es RL' := fun s Q E pos F N hq => h1 s Q E pos F N fun v new h' tk hv => hq v new h' tk (hr v new hv)
theorem EvLN.one {M : Model} (h1 : EvN M A env hZ L m news e RN) (hs : autoParam (starEach [e] env = (false, eval e env) :: starEach [] env) tA0) : EvLN M A env hZ L m news [e] (fun vs new => ∃ v, vs = [v] /\ RN v new) :=
 fun s Q E pos F N hq => spliced_more (h1 s _ E F N fun v new h' tk hv hl F' N' => spliced_none (hq [v] new h' tk ⟨v, rfl, hv⟩ hl F' N')) hs
theorem EvN.tupP {M : Model} {kk : Nat} (he : ∀ h, Fr hZ L h m -> News hZ L h news -> EvL M A env h es RL) (hz : ∀ vs, RL vs -> vs.length <= 99) : EvN M A env hZ L m news (.Tuple es kk pos) (fun v new => ∃ a vs, RL vs /\ v = .ref a /\ new = [(a, ({ cls := .type "tuple", data := .seq vs.toArray 0 } : Obj))]) := EvN.tup he hz
theorem EvN.tupN {M : Model} {RL : List Value -> List (Addr × Obj) -> Prop} {kk : Nat} (he : EvLN M A env hZ L m news es RL) (hz : ∀ vs new, RL vs new -> vs.length <= 99) :
  EvN M A env hZ L m news (.Tuple es kk pos) (fun v nn => ∃ a vs new, RL vs new /\ v = .ref a /\ nn = (a, ({ cls := .type "tuple", data := .seq vs.toArray 0 } : Obj)) :: new /\ ∀ q ∈ new, q.1 ≠ a) :=
 fun s Q E F N hq => Tuple_ (he s _ E pos F N fun vs new h' tk hvs hl F' N' => newTuple_N (s := (St s h' tk)) F' N' (fun h2 F2 N2 => by
  have ha := above_size (s := (St s h' tk)) (o := { cls := .type "tuple", data := .seq vs.toArray 0 }) F' N'
  refine hq _ (_ :: new) h2 tk ⟨_, vs, new, hvs, rfl, rfl, fun q hq => ha q (zL _ hq) _ (.head _)⟩ (apart_two hl ha) F2 N2) (by have := hz vs new hvs; rw [sizeLine_eq]; omega))
noncomputable def LstIn (T : List (Addr × Obj)) (P : List Value -> Prop) (v : Value) : Prop := ∃ a vs n, v = .ref a /\ (a, listOf vs.toArray n) ∈ T /\ P vs
noncomputable def NewL (P : List Value -> Prop) (v : Value) (new : List (Addr × Obj)) : Prop := ∃ a vs n new', v = .ref a /\ new = (a, listOf vs.toArray n) :: new' /\ P vs
theorem EvN.concat {P P' : List Value -> Prop} (h1 : EvN (model prog w) A env hZ L m news eAZ (fun v new => LstIn (new ++ news) P v)) (h2 : ∀ news', (∀ p ∈ news, p ∈ news') -> EvN (model prog w) A env hZ L m news' eB (fun v new => LstIn (new ++ news') P' v))
  (hz : ∀ vs ws, P vs -> P' ws -> vs.length + ws.length <= 99999) : EvN (model prog w) A env hZ L m news (.BinOp eAZ .Add eB pos) (NewL fun us => ∃ vs ws, us = vs ++ ws /\ P vs /\ P' ws) := fun s Q E F N hq => by
 refine wpAny_BinOp (h1 s _ E F N fun u new h' tk hu hl F' N' => h2 (new ++ news) (fun p hp => zR _ hp) (St s h' tk) _ E F' N' fun v new' h2 tk2 hv hl2 F2 N2 => ?_)
 obtain ⟨a, vs, n, rfl, hm, hp⟩ := hu
 obtain ⟨b, ws, n2, rfl, hm2, hp2⟩ := hv
 have hN : News hZ L h2 news := fun p hp => N2 p (zR _ (zR _ hp))
 refine add_lists (s := (St s h2 tk2)) F2 hN (N2.isList (zR _ hm)) (N2.isList hm2) (fun h3 F3 N3 => ?_) (by have := hz vs ws hp hp2; rw [sizeLine_eq]; omega)
 exact hq _ [_] h3 tk2 ⟨_, _, 0, [], rfl, rfl, vs, ws, rfl, hp, hp2⟩ (above_size (s := (St s h2 tk2)) F2 hN) F3 N3
theorem grev (P : Params) : nsIn (KK P) mainGlobals (oS "reversed") = some Option.none := by with_unfolding_all rfl
theorem glist (P : Params) : nsIn (KK P) mainGlobals (oS "list") = some Option.none := by with_unfolding_all rfl
theorem items_rev {vs : List Value} {acc : Array Value} (h : ItemsOf (fun i v => vs.toArray[vs.toArray.size - 1 - i]? = some v) acc vs.toArray.size) : acc = vs.reverse.toArray := by
 obtain ⟨hz, h⟩ := h
 have hz : acc.size = vs.length := hz.trans List.size_toArray
 refine Array.ext' (List.ext_getElem? fun i => ?_)
 rw [Array.getElem?_toList]
 rcases Nat.lt_or_ge i vs.length with hi | hi
 ·have hj : i < acc.size := by omega
  have := h i acc[i] (Array.getElem?_eq_getElem hj)
  rw [Array.getElem?_eq_getElem hj, <- this, List.getElem?_reverse hi, List.size_toArray, List.getElem?_toArray]
 ·rw [Array.getElem?_eq_none (by omega), List.getElem?_eq_none (by rw [List.length_reverse]; omega)]
theorem EvN.listRev {l : Addr} {vs : List Value} {n : Nat} {D U : Nat} (a : At w A env hZ L D U) (he : ∀ h, Fr hZ L h m -> News hZ L h news -> Ev (model prog w) A env h e (· = .ref l)) (hm : (l, listOf vs.toArray n) ∈ news) (hz : vs.length <= 99999)
  (hg : autoParam (env.globals = mainGlobals) tA0) (hbl : autoParam (env.builtins = builtinsNs) tA0) (hk : autoParam (env.scope.kind = .function) tA0) (hx : autoParam (env.kindOf (oS "list") = some .globalImplicit) tA0) (hx2 : autoParam (env.kindOf (oS "reversed") = some .globalImplicit) tA0)
  (hs : autoParam (starEach [e] env = (false, eval e env) :: starEach [] env) tA0) (hn : autoParam (((backTo pB (starEach [] env)).any fun x => x.1) = false) tA0)
  (hc : autoParam (eval (.Call (.Name (oS "reversed") pA) [e] [] pB) env = (do let f <- eval (.Name (oS "reversed") pA) env; callWith pB f [] (backTo pB (starEach [e] env)) (backToKw pB (keywordEach [] env)))) tA0)
  (hs' : starEach [.Call (.Name (oS "reversed") pA) [e] [] pB] env = (false, eval (.Call (.Name (oS "reversed") pA) [e] [] pB) env) :: starEach [] env := by rfl) (hn' : ((backTo pos (starEach [] env)).any fun x => x.1) = false := by rfl)
  (hc' : eval (.Call (.Name (oS "list") pC) [.Call (.Name (oS "reversed") pA) [e] [] pB] [] pos) env = (do let f <- eval (.Name (oS "list") pC) env; callWith pos f [] (backTo pos (starEach [.Call (.Name (oS "reversed") pA) [e] [] pB] env)) (backToKw pos (keywordEach [] env))) := by rfl) :
  EvN (model prog w) A env hZ L m news (.Call (.Name (oS "list") pC) [.Call (.Name (oS "reversed") pA) [e] [] pB] [] pos) (NewL (· = vs.reverse)) := by
 refine EvN.type1 (T := "list") (RN := fun v new => ∃ D, v = .ref D /\ new = [(D, revObj l ((vs.length : Int) - 1))])
  (fun h F N => Ev.built (a.gl.keeps F.keep) (glist _) (by rfl) (by decide) hg hbl hk hx)
  (EvN.type1 (T := "reversed") (fun h F N => Ev.built (a.gl.keeps F.keep) (grev _) (by rfl) (by decide) hg hbl hk hx2) (EvN.of he) (fun s Q E v new hv hl F N hq => ?_) hs hn hc)
  (fun s Q E v new hv hl F N hq => ?_) hs' hn' hc'
 ·obtain ⟨rfl, rfl⟩ := hv
  exact krv_reversed F N (N.isList hm) fun D' h' F' N' l1 => hq _ [_] h' s.toks ⟨D', rfl, rfl⟩ (fun q hq x hx => by rw [zS.mp hx]; exact Nat.ne_of_lt (l1 q hq)) F' N'
 ·obtain ⟨D', rfl, rfl⟩ := hv
  have hI := (N _ (.head _)).1
  have hlst := N.isList (.tail _ hm)
  have hsz : vs.toArray.size = vs.length := List.size_toArray
  refine call_list_rev (items := vs.toArray) a.hh (by rw [hsz, sizeLine_eq]; omega) ⟨_, hI, rfl, by rw [hsz]; rfl⟩ hlst (fun e => hl _ hm _ (.head _) e) fun h' tk acc' c' hkp hS hit => ?_
  have hacc := items_rev hit
  subst hacc
  have hD := N _ (.head _)
  have hlt : ∀ b o, s.heap.get? b = some o -> b ≠ s.heap.objs.size := fun b o e => Nat.ne_of_lt (Heap.lt_size e)
  refine hq _ [(s.heap.objs.size, listOf vs.reverse.toArray c')] h' tk ⟨_, _, c', [], rfl, rfl, rfl⟩ (fun q hq x hx => ?_) ⟨F.ns.at fun o e => hkp L o hD.2.1.symm e, fun b o e => hkp b o (fun e' => ?_) (F.keep b o e), F.above⟩ (fun p hp => ?_)
  ·rw [zS.mp hx]; exact hlt _ _ (N q (.tail _ hq)).1
  ·rw [e', hD.2.2] at e; cases e
  ·rcases zC.mp hp with rfl | hp
   ·refine ⟨hS, fun e => ?_, ?_⟩
    ·obtain ⟨oL, _, _, hoL, _⟩ := F.ns
     exact hlt L _ hoL e.symm
    ·cases e : hZ.get? s.heap.objs.size with
     | none => rfl
     | some o => exact absurd rfl (hlt _ _ (F.keep _ _ e))
   ·have := N p (.tail _ hp)
    exact ⟨hkp _ _ (hl p hp _ (.head _)) this.1, this.2⟩
end
section
variable {prog : Program} {w : World} {A : Around} {env : Env} {h hZ : Heap} {L : Addr} {m : Str -> Option Value} {news : List (Addr × Obj)} {e eAZ eB : Expr} {es : List Expr} {R RA RB : Value -> Prop} {RN RN' : Value -> List (Addr × Obj) -> Prop} {RL : List Value -> Prop} {x y : Str} {a b : Int} {pos pA pB pC : Pos} {s : Shared} {Q : Flow -> Shared -> Prop} {E : Value -> Shared -> Prop} {rest body orelse : List Stmt}
theorem EvN.split1 {pl : Sem Bool} (h1 : EvN (model prog w) A env hZ L m news eAZ (fun v _ => IsS x v)) (h2 : ∀ h, Fr hZ L h m -> Ev (model prog w) A env h eB (IsS y)) (hy : (y.length == 0) = false) (hz : x.length <= 999999)
  (hs : autoParam (starEach [eB] env = (false, eval eB env) :: starEach [] env) tA0) (hnn : autoParam (((backTo pB (starEach [] env)).any fun x => x.1) = false) tA0)
  (hc : autoParam (eval (.Call (.Attribute eAZ (oS "split") pA) [eB] [] pB) env = (do
   let ov <- eval eAZ env
   standAt pA.atName
   let (f, first) <- holding [ov] (getMethod ov (oS "split") pl)
   callWith pB f first (backTo pB (starEach [eB] env)) [])) tA0) : EvN (model prog w) A env hZ L m news (.Call (.Attribute eAZ (oS "split") pA) [eB] [] pB) (NewL fun vs => StrsAre vs (Txt.split x y)) := fun s Q E F N hq => by
 refine MethodCall_ (h1 s _ E F N fun v new h' tk hv hl F' N' => ?_) hc
 obtain ⟨t, rfl⟩ := hv
 refine GM.split ?_
 refine PyProof.Rows.callWith_method1 (spliced_more (h2 _ F' (St s h' tk) _ E rfl fun u tk' hu => spliced_none ?_) hs) hs hnn
 obtain ⟨t', rfl⟩ := hu
 have hN : News hZ L h' news := fun p hp => N' p (zR _ hp)
 refine KSpl.split1 (s := (St s h' tk')) F' hN hy (fun D l h2 k e hst F2 N2 l1 => ?_) (by rw [sizeLine_eq]; omega)
 exact hq _ [_] h2 k ⟨D, strValues l, 0, [], rfl, rfl, e ▸ hst⟩ (fun q hq x hx => by rw [zS.mp hx]; exact Nat.ne_of_lt (l1 q hq)) F2 N2
theorem EvN.split0 {pl : Sem Bool} (h1 : EvN (model prog w) A env hZ L m news eAZ (fun v _ => IsS x v)) (hz : x.length <= 999999)
  (hc : autoParam (eval (.Call (.Attribute eAZ (oS "split") pA) [] [] pB) env = (do
   let ov <- eval eAZ env
   standAt pA.atName
   let (f, first) <- holding [ov] (getMethod ov (oS "split") pl)
   callWith pB f first (backTo pB (starEach [] env)) [])) tA0) : EvN (model prog w) A env hZ L m news (.Call (.Attribute eAZ (oS "split") pA) [] [] pB) (NewL fun vs => StrsAre vs (Txt.words x)) := fun s Q E F N hq => by
 refine MethodCall_ (h1 s _ E F N fun v new h' tk hv hl F' N' => ?_) hc
 obtain ⟨t, rfl⟩ := hv
 refine GM.split ?_
 refine PyProof.Rows.callWith_method0 ?_
 have hN : News hZ L h' news := fun p hp => N' p (zR _ hp)
 refine KSpl.split0 (s := (St s h' tk)) F' hN (fun D l h2 k e hst F2 N2 l1 => ?_) (by rw [sizeLine_eq]; omega)
 exact hq _ [_] h2 k ⟨D, strValues l, 0, [], rfl, rfl, e ▸ hst⟩ (fun q hq x hx => by rw [zS.mp hx]; exact Nat.ne_of_lt (l1 q hq)) F2 N2
theorem EvN.strip {pl : Sem Bool} (h1 : EvN (model prog w) A env hZ L m news eAZ (fun v _ => IsS x v)) (hz : x.length <= 999999)
  (hc : autoParam (eval (.Call (.Attribute eAZ (oS "strip") pA) [] [] pB) env = (do
   let ov <- eval eAZ env
   standAt pA.atName
   let (f, first) <- holding [ov] (getMethod ov (oS "strip") pl)
   callWith pB f first (backTo pB (starEach [] env)) [])) tA0) : EvN (model prog w) A env hZ L m news (.Call (.Attribute eAZ (oS "strip") pA) [] [] pB) (fun v _ => IsS (Txt.strip x) v) := fun s Q E F N hq => by
 refine MethodCall_ (h1 s _ E F N fun v new h' tk hv hl F' N' => ?_) hc
 obtain ⟨t, rfl⟩ := hv
 refine GM.strip ?_
 refine PyProof.Rows.callWith_method0 ?_
 exact SC.strip (fun t' k => hq _ new h' k ⟨t', rfl⟩ hl F' N') (by rw [sizeLine_eq]; omega)
theorem EvN.item {P : List Value -> Prop} {j : Nat} (h1 : EvN (model prog w) A env hZ L m news eAZ (fun v new => LstIn (new ++ news) P v)) (h2 : ∀ h, Fr hZ L h m -> Ev (model prog w) A env h eB (IsI j)) (hx : ∀ vs, P vs -> ∃ v, vs[j]? = some v /\ R v) (hj : autoParam (j < 9999) tA1)
  (hs : autoParam (∀ l u, subscripted eB false (.ref l) (.int j u) = operate [.ref l, .int j u] (getItem (.ref l) (.int j u))) tA4) : EvN (model prog w) A env hZ L m news (.Subscript eAZ eB pos) (fun v _ => R v) := fun s Q E F N hq => by
 refine Subscript_ (h1 s _ E F N fun u new h' tk hu hl F' N' => h2 _ F' (St s h' tk) _ E rfl fun v tk' hv => ?_)
 obtain ⟨a, vs, n, rfl, hm, hp⟩ := hu
 obtain ⟨t, rfl⟩ := hv
 obtain ⟨v, hv, hr⟩ := hx vs hp
 have hlst := N'.isList hm
 exact tail_any hlst.typeIs slot_list_getitem.lookup (wpAny_getItem_list hlst (by omega) (by omega) (by simpa using hv) (hq v new h' tk' hr hl F' N')) (hs a t)
theorem EvT.and {M : Model} {c d : Bool} (h1 : EvT M A env h eAZ c) (h2 : c = true -> EvT M A env h eB d) : EvT M A env h (.BoolOp .And [eAZ, eB] pos) (c && d) := fun s Q E hs hq => by
 refine isTrue_and (h1 s _ E hs fun tk => ?_)
 cases c with
 | false => exact hq tk
 | true =>
  refine isTrue_and (h2 rfl _ _ E hs fun tk' => ?_)
  cases d with
  | false => exact hq tk'
  | true => exact isTrue_and_nil (hq tk')
theorem EvT.gtI (h1 : Ev (model prog w) A env h eAZ (IsI a)) (h2 : Ev (model prog w) A env h eB (IsI b)) (hb : autoParam (behindInMarks .Gt eB = false) tA0) : EvT (model prog w) A env h (.Compare eAZ [.Gt] [eB] pos) (decide (b < a)) :=
 EvT.cmp h1 h2 (fun s Q E u v _ hu hv hq => by obtain ⟨_, rfl⟩ := hu; obtain ⟨_, rfl⟩ := hv; exact PyProof.Rows.gt_int (hq s.toks)) hb
theorem st_retN {M : Model} (F : Fr hZ L s.heap m) (N : News hZ L s.heap news) (he : EvN M A env hZ L m news e RN) (hq : ∀ v new h' tk, RN v new -> (Ap news new) -> Fr hZ L h' m -> News hZ L h' (new ++ news) -> Q (.ret v) (St s h' tk)) :
  wpAny M A (execs (.Return (some e) pos :: rest) env) Q E s := wpAny_execs_cons (wpAny_Return_some (he s _ E F N fun v new h' tk hv hl F' N' => hq v new h' tk hv hl F' N'))
end
theorem strs_at {vs : List Value} {ws : List Str} (h : StrsAre vs ws) : ∀ {j : Nat} {x : Str}, ws[j]? = some x -> ∃ v, vs[j]? = some v /\ IsS x v := by
 induction h with
 | nil => intro j x h; simp at h
 | cons y t _ ih =>
  intro j x h
  cases j with
  | zero => exact ⟨_, rfl, t, by rw [Option.some.inj (show some _ = some x from h)]⟩
  | succ j => exact ih (by simpa using h)
noncomputable def wholeOf (ws : List Str) (when : Int) : List Str := ws ++ [oS "time=" ++ intStr when]
noncomputable def picked (ws : List Str) (when : Int) : Str := (wholeOf ws when).getD (Int.fmod when (wholeOf ws when).length).toNat Str.empty
noncomputable def nameIn (x : Str) : Str := (Txt.split x (oS "=")).getD 0 Str.empty
noncomputable def lline (k : Nat) (ws : List Str) (when style : Int) : Str × Option (List Str) :=
 if (style == 1) = true then (Txt.join (oS " ") (kname k :: wholeOf ws when) ++ oS "  # " ++ kname k, some (wholeOf ws when)) else
 if (style == 2) = true then (oS "  " ++ kname k ++ oS "\t" ++ Txt.join (oS " \t ") (wholeOf ws when).reverse ++ oS " ", some (wholeOf ws when)) else
 if (style == 3) = true then (kname k ++ oS " " ++ picked ws when, some [picked ws when]) else
 if (style == 4) = true then (kname k ++ oS " time=noon", none) else
 if (style == 5) = true then (kname k ++ oS " colour=3", none) else
 if (style == 6 && decide ((0 : Int) < ws.length)) = true then (kname k ++ oS " " ++ nameIn (ws.getD 0 Str.empty) ++ oS "=x", none) else
 (Txt.join (oS " ") (kname k :: wholeOf ws when), some (wholeOf ws when))
noncomputable def LinePost (r : Str × Option (List Str)) (v : Value) (new : List (Addr × Obj)) : Prop :=
 ∃ a vx vy new', v = .ref a /\ new = (a, tupO [vx, vy]) :: new' /\ (∀ q ∈ new', q.1 ≠ a) /\ IsS r.1 vx /\ match r.2 with
  | none => vy = .none
  | some ws => ∃ b vs n, vy = .ref b /\ (b, listOf vs.toArray n) ∈ new' /\ StrsAre vs ws
theorem kname_len {k : Nat} (hk : k < 18) : (kname k).length <= 20 := by
 refine lt18 (p := fun k => (kname k).length <= 20) ⟨?_, ?_, ?_, ?_, ?_, ?_, ?_, ?_, ?_, ?_, ?_, ?_, ?_, ?_, ?_, ?_, ?_, ?_⟩ hk
 all_goals decide +kernel
theorem strs_reverse {vs : List Value} {ws : List Str} (h : StrsAre vs ws) : StrsAre vs.reverse ws.reverse := by
 induction h with
 | nil => exact .nil
 | cons y t _ ih => rw [List.reverse_cons, List.reverse_cons]; exact strs_append ih (.cons _ _ .nil)
theorem getD_some {l : List Str} {j : Nat} (h : j < l.length) : l[j]? = some (l.getD j Str.empty) := by
 rw [List.getD_eq_getElem?_getD, List.getElem?_eq_getElem h]; rfl
theorem Ev.row0 {prog : Program} {w : World} {A : Around} {env : Env} {h hZ : Heap} {m : Str -> Option Value} {n x : Str} {a : Addr} {t : Tok} {l : List Value} {pA pB pC : Pos} {k0 : Nat} (F : Fr hZ env.locals h m) (hm : m n = some (.ref a)) (ht : IsTup h a (Value.str x t :: l).toArray)
  (hk : autoParam (env.scope.kind = .function) tA0) (hx : autoParam (env.kindOf n = some .local) tA0) (hd : autoParam ((n == ("__debug__" : Str)) = false) tA1) : Ev (model prog w) A env h (.Subscript (.Name n pA) (.Constant (.int 0) k0 pB) pC) (IsS x) :=
 Ev.mono (Ev.tupI (j := 0) (Ev.nm F hm hk hx hd) Ev.int ht rfl) fun v e => ⟨t, e⟩
theorem whole_post {text : Str} {W : List Str} {b c : Addr} {Wv : List Value} {n0 : Nat} {vx : Value} {nj : List (Addr × Obj)} (hs1 : IsS text vx) (hW : StrsAre Wv W) (hc : ∀ q ∈ nj, q.1 ≠ c) (hbc : b ≠ c) : LinePost (text, some W) (.ref c) (((c, tupO [vx, .ref b]) :: nj) ++ [(b, listOf Wv.toArray n0)]) := by
 refine ⟨c, vx, .ref b, nj ++ [(b, listOf Wv.toArray n0)], rfl, rfl, fun q hq => ?_, hs1, b, Wv, n0, rfl, zR _ (.head _), hW⟩
 rcases zA.mp hq with q1 | q1
 ·exact hc q q1
 ·rw [zS.mp q1]; exact hbc
theorem split_some (x y : Str) : ∃ z r, Txt.split x y = z :: r := by
 cases h : Txt.split x y with
 | cons z r => exact ⟨z, r, rfl⟩
 | nil =>
  exfalso
  unfold Txt.split at h
  split at h
  ·cases h
  ·split at h
   ·cases h
   ·have := congrArg List.length h
    rw [length_partsBetween] at this
    simp at this
theorem nameIn_at (x : Str) : (Txt.split x (oS "="))[0]? = some (nameIn x) := by
 obtain ⟨z, r, e⟩ := split_some x (oS "=")
 rw [nameIn, e]; rfl
theorem nameIn_len (x : Str) : (nameIn x).length <= x.length := part_short (List.mem_of_getElem? (nameIn_at x))
theorem law_line (w : World) (news : List (Addr × Obj)) {k : Nat} (hk : k < 18) {wa : Addr} {wvs : List Value} {wn : Nat} {ws : List Str} {when style : Int} {t1 t2 : Tok} (hm : (wa, listOf wvs.toArray wn) ∈ news) (hw : StrsAre wvs ws) (hz : ws.length <= 99) (hl : ∀ x ∈ ws, x.length <= 9999) (hs : Small when) :
  Gives w 512 1 3 [.ref (444 + 2 * k), .ref wa, .int when t1, .int style t2] [] news (LinePost (lline k ws when style)) := by
 refine entr 0 0 [(oS "row", .ref (444 + 2 * k)), (oS "words", .ref wa), (oS "when", .int when t1), (oS "style", .int style t2)] (fun A g L s m a F hm' N => ?_)
 have e1 := hm' _ (.head _)
 have e2 := hm' _ (.tail _ (.head _))
 have e3 := hm' _ (.tail _ (.tail _ (.head _)))
 have e4 := hm' _ (.tail _ (.tail _ (.tail _ (.head _))))
 clear hm'
 dsimp only at e1 e2 e3 e4
 have G := fun {h} {m} (F : Fr g L h m) => a.gl.keeps F.keep
 obtain ⟨tr, nr, ur, hrow⟩ := row_lk w.params hk
 have trow : ∀ {h m}, Fr g L h m -> IsTup h (444 + 2 * k) _ := fun F => tupK (a.K.keeps F.keep) hrow
 have hzw : wvs.length <= 99 := by rw [strs_len hw]; exact hz
 refine st_assignN rfl F N (EvN.concat (P := fun vs => vs = wvs) (P' := fun us => StrsAre us [oS "time=" ++ intStr when])
  (EvN.mono (EvN.of fun h F N => Ev.nm F e2) (by rintro _ _ ⟨rfl, rfl⟩; exact ⟨wa, wvs, wn, rfl, hm, rfl⟩))
  (fun news' hsub => EvN.mono (EvN.list (fun h F N => EvL.one (Ev.sadd Ev.str (Ev.strI (G F) (Ev.nmI F e3) hs) (by have := intStr_len hs; show 5 + _ <= _; omega))) (by rintro _ ⟨_, rfl, _⟩; exact Nat.le_of_ble_eq_true rfl))
   (by rintro _ _ ⟨b, _, ⟨_, rfl, _, rfl⟩, rfl, rfl⟩; exact ⟨b, _, 0, rfl, .head _, .cons _ _ .nil⟩))
  (by rintro _ us rfl hu; rw [strs_len hu]; show _ + 1 <= _; omega)) ?_
 intro y81 y82 h1 tk1 y83
 apply ab4 y81 y82 h1 tk1; intro T9 e9
 obtain ⟨b, us, n0, new0, rfl, rfl, _, xs, rfl, hue, hx⟩ := y83
 subst e9
 intro l1 F1 N1
 have hue := hue.symm
 subst hue
 have hW : StrsAre (wvs ++ xs) (wholeOf ws when) := strs_append hw hx
 have N2 : News g L h1 ((b, listOf (wvs ++ xs).toArray n0) :: news) := fun p hp => by
  rcases zC.mp hp with rfl | hp
  ·exact N1 _ (.head _)
  ·exact N1 p (zR _ hp)
 have hb : ∀ q ∈ news, q.1 ≠ b := fun q hq => l1 q hq _ (.head _)
 have hWl : (wholeOf ws when).length = ws.length + 1 := by rw [wholeOf, List.length_append]; rfl
 have hWm : ∀ x ∈ wholeOf ws when, x.length <= 9999 := fun x hx => by
  rcases zA.mp hx with hx | hx
  ·exact hl x hx
  ·rw [zS.mp hx, len_append]; have := intStr_len hs; show 5 + _ <= _; omega
 have hkn := kname_len hk
 generalize hWe : wholeOf ws when = W at hW hWl hWm
 generalize hWv : wvs ++ xs = Wv at hW N2
 clear N1 l1 F N hWv
 have fin : ∀ {r : Str × Option (List Str)} {v : Value} {new : List (Addr × Obj)} {h' : Heap} {tk' : Nat} {m' : Str -> Option Value} {more : List (Addr × Obj)}, LinePost r v (new ++ more) -> (Ap news more) -> (Ap (more ++ news) new) -> Fr g L h' m' -> News g L h' (new ++ (more ++ news)) ->
   lline k ws when style = r -> Ret g L news s (LinePost (lline k ws when style)) (.ret v) (St s h' tk') := by
  rintro r v new h' tk' m' more hp hq1 hq2 F' N' rfl
  exact ⟨new ++ more, h', tk', m', rfl, F', by rw [List.append_assoc]; exact N', apart_two hq1 hq2, hp⟩
 have e5 : (mput m (oS "whole") (Value.ref b)) (oS "whole") = some (.ref b) := rfl
 have hj1 : JoinOk (oS " ") (kname k :: W) = true := joinOk (c := 9999) (by
  intro x hx
  rcases zC.mp hx with rfl | hx
  ·omega
  ·exact hWm x hx) (by rw [List.length_cons, hWl]; show _ * (9999 + 1) <= _; omega)
 have hjl1 : (Txt.join (oS " ") (kname k :: W)).length <= 1010000 := by
  have := join_len (sep := oS " ") (ws := kname k :: W) (c := 9999) (by
   intro x hx
   rcases zC.mp hx with rfl | hx
   ·omega
   ·exact hWm x hx)
  rw [List.length_cons, hWl] at this
  have h1 : (oS " ").length = 1 := by decide +kernel
  rw [h1] at this
  omega
 have more1 : ∀ q ∈ news, ∀ x ∈ [(b, listOf Wv.toArray n0)], q.1 ≠ x.1 := fun q hq x hx => by rw [zS.mp hx]; exact hb q hq
 refine st_if (EvT.eqI (Ev.nmI F1 e4) Ev.int) (fun tk b0 => ?_) (fun tk b0 => st_nil ?_)
 ·refine st_retN F1 N2 (EvN.tupN (EvLN.cons (RL := fun _ _ vs nn => (∃ v, vs = [v] /\ v = .ref b) /\ nn = []) (EvN.saddL (EvN.saddL (EvN.join (ws := kname k :: W) (fun h F N => Ev.str) (EvN.mono (EvN.concat (P := fun vs => StrsAre vs [kname k]) (P' := fun vs => StrsAre vs W)
   (EvN.mono (EvN.list (fun h F N => EvL.one (Ev.row0 F e1 (trow F))) (by rintro _ ⟨_, rfl, _⟩; exact Nat.le_of_ble_eq_true rfl)) (by rintro _ _ ⟨d, _, ⟨_, rfl, _, rfl⟩, rfl, rfl⟩; exact ⟨d, _, 0, rfl, .head _, .cons _ _ .nil⟩))
   (fun news' hsub => EvN.mono (EvN.of fun h F N => Ev.nm F e5) (by rintro _ _ ⟨rfl, rfl⟩; exact ⟨b, Wv, n0, rfl, hsub _ (.head _), hW⟩))
   (by intro us vs hu hv; rw [strs_len hu, strs_len hv, hWl]; show 1 + _ <= _; omega)) (by rintro _ _ ⟨d, _, n, nn, rfl, rfl, us, vs, rfl, hu, hv⟩; exact ⟨d, _, n, nn, rfl, rfl, strs_append hu hv⟩)) hj1) (fun h F => Ev.str) (by show _ + 4 <= _; omega)) (fun h F => Ev.row0 F e1 (trow F)) (by rw [len_append]; show _ + 4 + _ <= _; omega)) (fun v new _ _ => EvLN.of fun h F N => EvL.one (Ev.nm F e5))) (by rintro _ _ ⟨_, _, _, _, rfl, _, _, ⟨⟨_, rfl, _⟩, _⟩, _⟩; exact Nat.le_of_ble_eq_true rfl)) ?_
  intro y81 y82 h2 tk2 y83
  apply ab4 y81 y82 h2 tk2; intro T9 e9
  obtain ⟨c, _, _, ⟨vx, nj, _, _, rfl, rfl, hs1, ⟨⟨_, rfl, rfl⟩, rfl⟩, _⟩, rfl, rfl, hc⟩ := y83
  subst e9
  intro l2 F2 N3
  exact fin (r := (Txt.join (oS " ") (kname k :: W) ++ oS "  # " ++ kname k, some W)) (more := [(b, listOf Wv.toArray n0)]) (whole_post hs1 hW hc (l2 _ (.head _) _ (.head _))) more1 l2 F2 N3 (by rw [lline, if_pos b0, hWe])
 refine st_if (EvT.eqI (Ev.nmI F1 e4) Ev.int) (fun tk b1 => ?_) (fun tk b1 => st_nil ?_)
 ·have hWr : ∀ x ∈ W.reverse, x.length <= 9999 := fun x hx => hWm x (List.mem_reverse.mp hx)
  have hj2 : JoinOk (oS " \t ") W.reverse = true := joinOk (c := 9999) hWr (by rw [List.length_reverse, hWl]; show _ * (9999 + 3) <= _; omega)
  have hjl2 : (Txt.join (oS " \t ") W.reverse).length <= 1010000 := by
   have := join_len (sep := oS " \t ") (ws := W.reverse) (c := 9999) hWr
   rw [List.length_reverse, hWl] at this
   have h1 : (oS " \t ").length = 3 := by decide +kernel
   rw [h1] at this
   omega
  refine st_retN F1 N2 (EvN.tupN (EvLN.cons (RL := fun _ _ vs nn => (∃ v, vs = [v] /\ v = .ref b) /\ nn = []) (EvN.saddL (EvN.saddR (fun h F N => Ev.sadd (Ev.sadd Ev.str (Ev.row0 F e1 (trow F)) (by show 2 + _ <= _; omega)) Ev.str (by rw [len_append]; show 2 + _ + 1 <= _; omega)) (EvN.join (ws := W.reverse) (fun h F N => Ev.str) (EvN.mono (EvN.listRev a (fun h F N => Ev.nm F e5) (.head _) (by rw [strs_len hW, hWl]; omega)) (by rintro _ _ ⟨d, _, n, nn, rfl, rfl, rfl⟩; exact ⟨d, _, n, nn, rfl, rfl, strs_reverse hW⟩)) hj2) (by rw [len_append, len_append]; show 2 + _ + 1 + _ <= _; omega)) (fun h F => Ev.str) (by rw [len_append, len_append, len_append]; show 2 + _ + 1 + _ + 1 <= _; omega)) (fun v new _ _ => EvLN.of fun h F N => EvL.one (Ev.nm F e5))) (by rintro _ _ ⟨_, _, _, _, rfl, _, _, ⟨⟨_, rfl, _⟩, _⟩, _⟩; exact Nat.le_of_ble_eq_true rfl)) ?_
  intro y81 y82 h2 tk2 y83
  apply ab4 y81 y82 h2 tk2; intro T9 e9
  obtain ⟨c, _, _, ⟨vx, nj, _, _, rfl, rfl, hs1, ⟨⟨_, rfl, rfl⟩, rfl⟩, _⟩, rfl, rfl, hc⟩ := y83
  subst e9
  intro l2 F2 N3
  exact fin (r := (oS "  " ++ kname k ++ oS "\t" ++ Txt.join (oS " \t ") W.reverse ++ oS " ", some W)) (more := [(b, listOf Wv.toArray n0)]) (whole_post hs1 hW hc (l2 _ (.head _) _ (.head _))) more1 l2 F2 N3 (by rw [lline, if_neg (ne_true_of_eq_false b0), if_pos b1, hWe])
 refine st_if (EvT.eqI (Ev.nmI F1 e4) Ev.int) (fun tk b2 => ?_) (fun tk b2 => st_nil ?_)
 ·have hWp : (0 : Int) < Wv.length := by rw [strs_len hW, hWl]; omega
  have hj0 : Int.fmod when W.length = ((Int.fmod when W.length).toNat : Int) := (Int.toNat_of_nonneg (Int.fmod_nonneg_of_pos _ (by rw [<- strs_len hW]; exact hWp))).symm
  have hjlt : (Int.fmod when W.length).toNat < W.length := by
   have := Int.fmod_lt_of_pos when (show (0 : Int) < W.length by rw [<- strs_len hW]; exact hWp)
   omega
  have hpk : W[(Int.fmod when W.length).toNat]? = some (picked ws when) := by rw [picked, hWe]; exact getD_some hjlt
  obtain ⟨v3, hv3, hs3⟩ := strs_at hW hpk
  have hpl : (picked ws when).length <= 9999 := hWm _ (List.mem_of_getElem? hpk)
  have hj9 : (Int.fmod when W.length).toNat < 999 := by omega
  have ix : ∀ {h : Heap} {env : Env} {e : Expr}, Ev (model rW.prog w) A env h e (IsI (Int.fmod when Wv.length)) -> Ev (model rW.prog w) A env h e (IsI ((Int.fmod when W.length).toNat : Nat)) := fun he => by rw [<- hj0, <- strs_len hW]; exact he
  have hWb : ∀ {h : Heap} {more : List (Addr × Obj)}, News g L h (more ++ (b, listOf Wv.toArray n0) :: news) -> h.IsList b Wv.toArray := fun N => N.isList (zR _ (.head _))
  refine st_retN F1 N2 (EvN.tupN (EvLN.cons (RN := fun v new => IsS (kname k ++ oS " " ++ picked ws when) v /\ new = []) (RL := fun _ _ vs nn => ∃ d us, StrsAre us [picked ws when] /\ vs = [.ref d] /\ nn = [(d, listOf us.toArray 0)])
   (EvN.of fun h F N => Ev.sadd (Ev.sadd (Ev.row0 F e1 (trow F)) Ev.str (by show _ + 1 <= _; omega)) (Ev.mono (Ev.lstI (Ev.nm F e5) (ix (Ev.mod (Ev.nmI F e3) (Ev.len (G F) (Ev.nm F e5) (hWb (more := []) N) (by rw [strs_len hW]; omega)) (by omega))) (hWb (more := []) N) hv3 hj9) (by rintro _ rfl; exact hs3)) (by rw [len_append]; show _ + 1 + _ <= _; omega))
   (fun v new _ _ => by
    refine EvLN.mono (EvLN.one (EvN.list (fun h F N => EvL.one (Ev.lstI (Ev.nm F e5) (ix (Ev.mod (Ev.nmI F e3) (Ev.len (G F) (Ev.nm F e5) (hWb N) (by rw [strs_len hW]; omega)) (by omega))) (hWb N) hv3 hj9)) (by rintro _ ⟨_, rfl, _⟩; exact Nat.le_of_ble_eq_true rfl))) ?_
    rintro _ _ ⟨_, rfl, d, _, ⟨_, rfl, rfl⟩, rfl, rfl⟩
    obtain ⟨t9, rfl⟩ := hs3
    exact ⟨d, _, .cons _ _ .nil, rfl, rfl⟩)) (by rintro _ _ ⟨_, _, _, _, rfl, _, _, ⟨_, _, _, rfl, _⟩, _⟩; exact Nat.le_of_ble_eq_true rfl)) ?_
  intro y81 y82 h2 tk2 y83
  apply ab4 y81 y82 h2 tk2; intro T9 e9
  obtain ⟨c, _, _, ⟨vx, _, _, _, rfl, rfl, ⟨hs1, rfl⟩, ⟨d, us, hus, rfl, rfl⟩, _⟩, rfl, rfl, hc⟩ := y83
  subst e9
  intro l2 F2 N3
  refine fin (r := (kname k ++ oS " " ++ picked ws when, some [picked ws when])) (more := [(b, listOf Wv.toArray n0)]) ⟨c, _, _, _, rfl, rfl, fun q hq => ?_, hs1, d, us, 0, rfl, .head _, hus⟩ more1 l2 F2 N3 (by rw [lline, if_neg (ne_true_of_eq_false b0), if_neg (ne_true_of_eq_false b1), if_pos b2])
  rcases zC.mp hq with rfl | hq
  ·exact hc _ (.head _)
  ·rw [zS.mp hq]; exact l2 _ (.head _) _ (.head _)
 refine st_if (EvT.eqI (Ev.nmI F1 e4) Ev.int) (fun tk b3 => ?_) (fun tk b3 => st_nil ?_)
 ·refine st_retN F1 N2 (EvN.tupP (fun h F N => EvL.cons (Ev.sadd (Ev.row0 F e1 (trow F)) Ev.str (by show _ + 10 <= _; omega)) (EvL.one Ev.none rfl)) (by rintro _ ⟨_, _, rfl, _, _, rfl, _⟩; exact Nat.le_of_ble_eq_true rfl)) ?_
  intro y81 y82 h2 tk2 y83
  apply ab4 y81 y82 h2 tk2; intro T9 e9
  obtain ⟨c, _, ⟨_, _, rfl, hs1, _, rfl, rfl⟩, rfl, rfl⟩ := y83
  subst e9
  intro l2 F2 N3
  exact fin (r := (_, none)) (more := [(b, listOf Wv.toArray n0)]) ⟨c, _, _, _, rfl, rfl, fun q hq => l2 q (zL _ hq) _ (.head _), hs1, rfl⟩ more1 l2 F2 N3 (by rw [lline, if_neg (ne_true_of_eq_false b0), if_neg (ne_true_of_eq_false b1), if_neg (ne_true_of_eq_false b2), if_pos b3])
 refine st_if (EvT.eqI (Ev.nmI F1 e4) Ev.int) (fun tk b4 => ?_) (fun tk b4 => st_nil ?_)
 ·refine st_retN F1 N2 (EvN.tupP (fun h F N => EvL.cons (Ev.sadd (Ev.row0 F e1 (trow F)) Ev.str (by show _ + 9 <= _; omega)) (EvL.one Ev.none rfl)) (by rintro _ ⟨_, _, rfl, _, _, rfl, _⟩; exact Nat.le_of_ble_eq_true rfl)) ?_
  intro y81 y82 h2 tk2 y83
  apply ab4 y81 y82 h2 tk2; intro T9 e9
  obtain ⟨c, _, ⟨_, _, rfl, hs1, _, rfl, rfl⟩, rfl, rfl⟩ := y83
  subst e9
  intro l2 F2 N3
  exact fin (r := (_, none)) (more := [(b, listOf Wv.toArray n0)]) ⟨c, _, _, _, rfl, rfl, fun q hq => l2 q (zL _ hq) _ (.head _), hs1, rfl⟩ more1 l2 F2 N3 (by rw [lline, if_neg (ne_true_of_eq_false b0), if_neg (ne_true_of_eq_false b1), if_neg (ne_true_of_eq_false b2), if_neg (ne_true_of_eq_false b3), if_pos b4])
 have hwl := strs_len hw
 refine st_if (EvT.and (EvT.eqI (Ev.nmI F1 e4) Ev.int) fun _ => EvT.gtI (Ev.len (G F1) (Ev.nm F1 e2) (N2.isList (.tail _ hm)) (by omega)) Ev.int) (fun tk b5 => ?_) (fun tk b5 => st_nil ?_)
 all_goals rw [hwl] at b5
 ·have hw0 : 0 < ws.length := by simp only [Bool.and_eq_true, decide_eq_true_eq] at b5; omega
  have hw0' := getD_some hw0
  obtain ⟨v6, hv6, hs6⟩ := strs_at hw hw0'
  have hl0 := hl _ (List.mem_of_getElem? hw0')
  have hl1 := nameIn_len (ws.getD 0 Str.empty)
  refine st_retN F1 N2 (EvN.tupN (EvLN.cons (RL := fun _ _ vs nn => vs = [.none] /\ nn = []) (EvN.saddL (EvN.saddR (fun h F N => Ev.sadd (Ev.row0 F e1 (trow F)) Ev.str (by show _ + 1 <= _; omega))
   (EvN.item (j := 0) (P := fun vs => StrsAre vs (Txt.split (ws.getD 0 Str.empty) (oS "="))) (R := IsS (nameIn (ws.getD 0 Str.empty)))
    (EvN.mono (EvN.split1 (EvN.mono (EvN.of fun h F N => Ev.lstI (j := 0) (Ev.nm F e2) Ev.int (N.isList (.tail _ hm)) hv6) (by rintro _ _ ⟨rfl, _⟩; exact hs6)) (fun h F => Ev.str) (by decide +kernel) (by omega)) (by rintro _ _ ⟨d, us, n, nn, rfl, rfl, hu⟩; exact ⟨d, us, n, rfl, .head _, hu⟩))
    (fun h F => Ev.int) (fun vs hu => strs_at hu (nameIn_at _))) (by rw [len_append]; show _ + 1 + _ <= _; omega)) (fun h F => Ev.str) (by rw [len_append, len_append]; show _ + 1 + _ + 2 <= _; omega))
   (fun v new _ _ => EvLN.mono (EvLN.of fun h F N => EvL.one Ev.none rfl) (by rintro _ _ ⟨⟨_, rfl, rfl⟩, rfl⟩; exact ⟨rfl, rfl⟩))) (by rintro _ _ ⟨_, _, _, _, rfl, _, _, ⟨rfl, _⟩, _⟩; exact Nat.le_of_ble_eq_true rfl)) ?_
  intro y81 y82 h2 tk2 y83
  apply ab4 y81 y82 h2 tk2; intro T9 e9
  obtain ⟨c, _, _, ⟨vx, nj, _, _, rfl, rfl, hs1, ⟨rfl, rfl⟩, _⟩, rfl, rfl, hc⟩ := y83
  subst e9
  intro l2 F2 N3
  refine fin (r := (kname k ++ oS " " ++ nameIn (ws.getD 0 Str.empty) ++ oS "=x", none)) (more := [(b, listOf Wv.toArray n0)]) ⟨c, _, _, _, rfl, rfl, fun q hq => ?_, hs1, rfl⟩ more1 l2 F2 N3 (by rw [lline, if_neg (ne_true_of_eq_false b0), if_neg (ne_true_of_eq_false b1), if_neg (ne_true_of_eq_false b2), if_neg (ne_true_of_eq_false b3), if_neg (ne_true_of_eq_false b4), if_pos b5])
  rcases zA.mp hq with hq | hq
  ·exact hc _ hq
  ·rw [zS.mp hq]; exact l2 _ (.head _) _ (.head _)
 refine st_retN F1 N2 (EvN.tupN (EvLN.cons (RL := fun _ _ vs nn => (∃ v, vs = [v] /\ v = .ref b) /\ nn = []) (EvN.join (ws := kname k :: W) (fun h F N => Ev.str) (EvN.mono (EvN.concat (P := fun vs => StrsAre vs [kname k]) (P' := fun vs => StrsAre vs W)
   (EvN.mono (EvN.list (fun h F N => EvL.one (Ev.row0 F e1 (trow F))) (by rintro _ ⟨_, rfl, _⟩; exact Nat.le_of_ble_eq_true rfl)) (by rintro _ _ ⟨d, _, ⟨_, rfl, _, rfl⟩, rfl, rfl⟩; exact ⟨d, _, 0, rfl, .head _, .cons _ _ .nil⟩))
   (fun news' hsub => EvN.mono (EvN.of fun h F N => Ev.nm F e5) (by rintro _ _ ⟨rfl, rfl⟩; exact ⟨b, Wv, n0, rfl, hsub _ (.head _), hW⟩))
   (by intro us vs hu hv; rw [strs_len hu, strs_len hv, hWl]; show 1 + _ <= _; omega)) (by rintro _ _ ⟨d, _, n, nn, rfl, rfl, us, vs, rfl, hu, hv⟩; exact ⟨d, _, n, nn, rfl, rfl, strs_append hu hv⟩)) hj1) (fun v new _ _ => EvLN.of fun h F N => EvL.one (Ev.nm F e5))) (by rintro _ _ ⟨_, _, _, _, rfl, _, _, ⟨⟨_, rfl, _⟩, _⟩, _⟩; exact Nat.le_of_ble_eq_true rfl)) ?_
 intro y81 y82 h2 tk2 y83
 apply ab4 y81 y82 h2 tk2; intro T9 e9
 obtain ⟨c, _, _, ⟨vx, nj, _, _, rfl, rfl, hs1, ⟨⟨_, rfl, rfl⟩, rfl⟩, _⟩, rfl, rfl, hc⟩ := y83
 subst e9
 intro l2 F2 N3
 exact fin (r := (Txt.join (oS " ") (kname k :: W), some W)) (more := [(b, listOf Wv.toArray n0)]) (whole_post hs1 hW hc (l2 _ (.head _) _ (.head _))) more1 l2 F2 N3 (by rw [lline, if_neg (ne_true_of_eq_false b0), if_neg (ne_true_of_eq_false b1), if_neg (ne_true_of_eq_false b2), if_neg (ne_true_of_eq_false b3), if_neg (ne_true_of_eq_false b4), if_neg (ne_true_of_eq_false b5), hWe])
section
variable {prog : Program} {w : World} {A : Around} {env : Env} {hZ : Heap} {m mZ : Str -> Option Value} {news : List (Addr × Obj)} {e eAZ : Expr} {pos pA pB pC pk pv pt : Pos} {xk xv : Str} {kk : Nat} {s : Shared} {Q : Flow -> Shared -> Prop} {E : Value -> Shared -> Prop} {rest body : List Stmt} {d : Addr} {od : Obj} {kvs : List (Str × Value)}
theorem pair_store {T : Addr} {a b : Value} {Q : Unit -> Shared -> Prop} (hh : A.handled = none) (F : Fr hZ env.locals s.heap m) (N : News hZ env.locals s.heap news) (hT : s.heap.IsTuple T #[a, b])
  (hxk : env.kindOf xk = some .local) (hxv : env.kindOf xv = some .local) (hp : (env.scope.kind == .class || (env.scope.kind == .module && env.locals != env.globals)) = false)
  (h : ∀ h' tk, Fr hZ env.locals h' (mput (mput m xk a) xv b) -> News hZ env.locals h' news -> Q () (St s h' tk)) :
  wpAny (model prog w) A (assign (.Tuple [.Name xk pk, .Name xv pv] kk pt) env (.ref T)) Q E s := by
 refine wpAny_assign_Tuple hh hT rfl rfl fun hCZ hxC => ?_
 have up : ∀ b o, s.heap.get? b = some o -> hCZ.get? b = some o := fun b o e => hxC b o (Nat.ne_of_lt (Heap.lt_size e)) e
 have FCZ := F.keeps up
 have NCZ : News hZ env.locals hCZ news := fun p hp => ⟨up _ _ (N p hp).1, (N p hp).2⟩
 show wpAny _ _ (do holding [_] (assign (.Name xk pk) env a); do holding [] (assign (.Name xv pv) env b); pure ()) _ _ _
 refine wpAny_bind (wpAny_holding (wpAny_assign_Name (wpAny_storeName_local hxk FCZ.ns (fun hDZ hnD hsD => ?_) hp)))
 refine wpAny_bind (wpAny_holding (wpAny_assign_Name (wpAny_storeName_local hxv hnD (fun hEZ hnE hsE => wpAny_pure ?_) hp)))
 exact h hEZ _ ((FCZ.set hnD hsD).set hnE hsE) ((NCZ.set hsD).set hsE)
theorem st_forItems {pl : Sem Bool} (hh : A.handled = none) (F : Fr hZ env.locals s.heap mZ) (N : News hZ env.locals s.heap news) (hm : (d, od) ∈ news) (hd : od.IsDictOf (strKind prog w) kvs) (lo : (d == sysModules) = false)
  (he : Ev (model prog w) A env s.heap eAZ (· = .ref d)) (J : Nat -> (Str -> Option Value) -> Prop) (h0 : J 0 mZ)
  (turn : ∀ i k t x m h tk newsA, kvs[i]? = some (k, x) -> J i m -> (∀ p ∈ news, p ∈ newsA) -> Fr hZ env.locals h (mput (mput m xk (.str k t)) xv x) -> News hZ env.locals h newsA ->
   wpAny (model prog w) A (execs body env) (fun f s' => match f with
    | .ret v => Q (.ret v) s'
    | .brk => wpAny (model prog w) A (execs rest env) Q E s'
    | _ => ∃ h' tk' m', s' = (St s h' tk') /\ Fr hZ env.locals h' m' /\ News hZ env.locals h' newsA /\ J (i + 1) m') E (St s h tk))
  (done : ∀ m h tk, J kvs.length m -> Fr hZ env.locals h m -> News hZ env.locals h news -> wpAny (model prog w) A (execs rest env) Q E (St s h tk))
  (hE : PassesOwn (model prog w) A env E) (hxk : autoParam (env.kindOf xk = some .local) tA0) (hxv : autoParam (env.kindOf xv = some .local) tA0) (hpp : autoParam ((env.scope.kind == .class || (env.scope.kind == .module && env.locals != env.globals)) = false) tA0)
  (hs : autoParam (∀ v, foldedSetIterable (.Call (.Attribute eAZ (oS "items") pA) [] [] pB) env v = pure v) tA2)
  (hc : autoParam (eval (.Call (.Attribute eAZ (oS "items") pA) [] [] pB) env = (do
   let ov <- eval eAZ env
   standAt pA.atName
   let (f, first) <- holding [ov] (getMethod ov (oS "items") pl)
   callWith pB f first (backTo pB (starEach [] env)) [])) tA0) :
  wpAny (model prog w) A (execs (.For (.Tuple [.Name xk pk, .Name xv pv] kk pt) (.Call (.Attribute eAZ (oS "items") pA) [] [] pB) body [] pos :: rest) env) Q E s := by
 refine wpAny_execs_cons (For_turns F (MethodCall_ (he s _ E rfl fun v tk hv => ?_) hc) hs hE)
 subst hv
 have hDo : s.heap.DictOf (strKind prog w) d kvs := Heap.dictOf_iff.mpr ⟨od, (N _ hm).1, hd⟩
 refine getMethod_builtin (s := (Tk s tk)) hDo.typeIs PySem.F.plainAttrs_dict PySem.F.slot_dict_items PySem.F.type_dict_items hDo.mapOf.noDict ?_
 refine PyProof.Rows.callWith_method0 ?_
 refine call_meetsIn (s := (Tk s tk)) PySem.F.slot_dict_items hDo.typeIs PySem.F.entry_dict_items (PySem.F.args_dict_items_1 _) (meets_dict_items (strKind prog w) d lo) ⟨⟨kvs, hDo⟩, ?_⟩
 have F1 := F.push { cls := .type "dict_items", data := .fields #[.ref d] }
 have N1 := News.push F N { cls := .type "dict_items", data := .fields #[.ref d] }
 have N0 : News hZ env.locals (s.heap.push { cls := .type "dict_items", data := .fields #[.ref d] }) news := fun p hp => N1 p (.tail _ hp)
 have hax := N0 _ hm
 obtain ⟨ep, hat⟩ := (kda_dict (s := { s with heap := s.heap.push { cls := .type "dict_items", data := .fields #[.ref d] } }) N0 hm hd).dictAt
 refine wpAny_pyIter_items (s := (St s (s.heap.push { cls := .type "dict_items", data := .fields #[.ref d] }) tk)) ⟨_, Heap.get?_push_size _ rfl, rfl, rfl⟩ hat ?_
 generalize hI : (s.heap.push { cls := .type "dict_items", data := .fields #[.ref d] }) = g at *
 have hne : d ≠ g.objs.size := Nat.ne_of_lt hat.lt_size
 refine ⟨g.objs.size, _, _, _, _, _, _, mZ, news, fun i m news' => (∀ p ∈ news, p ∈ news') /\ J i m, rfl, kti_itemsTurns (knd := strKind prog w) hh g.objs.size d hne kvs ep, ?_, ?_, ?_, ?_, F1.push _, (fun p hp => ⟨Heap.get?_push_of_some _ (N0 p hp).1, (N0 p hp).2⟩), ⟨fun _ h => h, h0⟩, ?_, ?_⟩
 ·intro hm'
  have : env.locals = g.objs.size ∨ env.locals = d := by simpa using hm'
  rcases this with e | e
  ·exact absurd F1.ns.lt (e ▸ Nat.lt_irrefl _)
  ·exact hax.2.1 e.symm
 ·intro b hb
  have hb' : b = g.objs.size := by simpa using hb
  rw [hb']; exact next_is_new F1
 ·intro p hp hb
  have hb' : p.1 = g.objs.size := by simpa using hb
  exact absurd (Heap.lt_size (N0 p hp).1) (hb' ▸ Nat.lt_irrefl _)
 ·exact ⟨⟨.none, .none, Heap.get?_push_size _ rfl⟩, hat.push _⟩
 ·intro i v mA newsA hAZ tkA own hi y81 y82 hw hof hoh hin hst FA NA
  apply ab1 v; intro T9 e9
  obtain ⟨T, key, k, x, rfl, hx, hk, hT⟩ := y81
  obtain ⟨hsub, hJ⟩ := y82
  obtain ⟨t, rfl⟩ := Value.isStrOf_shape hk
  subst e9
  refine pair_store (s := (St s hAZ tkA)) hh FA NA hT hxk hxv hpp fun hBZ tkB FB NB => ?_
  refine wpAny_mono (turn i k t x mA hBZ tkB (own ++ newsA) hx hJ (fun p hp => zR _ (hsub p hp)) FB NB) (fun f s' hf => ?_) fun _ _ e => e
  cases f with
  | ret v => exact hf
  | brk => exact hf
  | next =>
   apply ab1 s'; intro T9 e9
   obtain ⟨h', tk', m', rfl, F', N', hJ'⟩ := hf
   subst e9
   exact ⟨rfl, h', tk', m', newsA, rfl, F', N', hw, hsub, hJ'⟩
  | cont =>
   apply ab1 s'; intro T9 e9
   obtain ⟨h', tk', m', rfl, F', N', hJ'⟩ := hf
   subst e9
   exact ⟨rfl, h', tk', m', newsA, rfl, F', N', hw, hsub, hJ'⟩
 ·rintro h' tk' m' news' F' N' _ ⟨hsub, hJ⟩
  exact done m' h' tk' hJ F' fun p hp => N' p (hsub p hp)
end
section
variable {prog : Program} {w : World} {A : Around} {env : Env} {h hZ : Heap} {L : Addr} {m : Str -> Option Value} {news : List (Addr × Obj)} {e eAZ eB : Expr} {R : Value -> Prop} {pos pA pB : Pos}
theorem Ev.kGet {pl : Sem Bool} {a : Addr} {es : Array DictEntry} {n : Nat} {kx : Str} {r : Option Value} (F : Fr hZ L h m) (X : (KK w.params).In hZ) (hl : (KK w.params).lookup a = some ⟨.type "dict", Option.none, .dict es n, #[]⟩) (hk : KeysLit w.params es.toList) (hn : nsIn (KK w.params) a kx = some r) (lo : (a == sysModules) = false)
  (h1 : Ev (model prog w) A env h eAZ (· = .ref a)) (h2 : Ev (model prog w) A env h eB (IsS kx))
  (hs : autoParam (starEach [eB] env = (false, eval eB env) :: starEach [] env) tA0) (hnn : autoParam (((backTo pB (starEach [] env)).any fun x => x.1) = false) tA0)
  (hc : autoParam (eval (.Call (.Attribute eAZ (oS "get") pA) [eB] [] pB) env = (do
   let ov <- eval eAZ env
   standAt pA.atName
   let (f, first) <- holding [ov] (getMethod ov (oS "get") pl)
   callWith pB f first (backTo pB (starEach [eB] env)) [])) tA0) : Ev (model prog w) A env h (.Call (.Attribute eAZ (oS "get") pA) [eB] [] pB) (· = r.getD .none) := fun s Q E hh hq => by
 subst hh
 have hM : s.heap.MapOf (strKind prog w) a (fun k => findBy Value.isStrOf es k) := mapOf_K (prog := prog) (X.keeps F.keep) hl hk
 refine MethodCall_ (h1 s _ E rfl fun v tk hv => ?_) hc
 subst hv
 refine getMethod_builtin (s := (Tk s tk)) hM.typeIs PySem.F.plainAttrs_dict PySem.F.slot_dict_get PySem.F.type_dict_get hM.noDict ?_
 refine PyProof.Rows.callWith_method1 (spliced_more (h2 (Tk s tk) _ E rfl fun u tk' hu => spliced_none ?_) hs) hs hnn
 obtain ⟨t, rfl⟩ := hu
 exact call_meetsIn (s := (Tk s tk')) PySem.F.slot_dict_get hM.typeIs PySem.F.entry_dict_get (PySem.F.args_dict_get_2 _ _) (meets_dict_get (strKind prog w) a (strKind_is prog w kx t) lo) ⟨_, hM, by rw [find_K hl hn]; exact hq _ _ rfl⟩
theorem EvT.isNone {v : Value} (h1 : Ev (model prog w) A env h eAZ (· = v)) (hb : autoParam (behindInMarks .Is (.Constant .none kZ pB) = false) tA0) : EvT (model prog w) A env h (.Compare eAZ [.Is] [.Constant .none kZ pB] pos) (v == .none) :=
 EvT.cmp h1 Ev.none (fun s Q E u z _ hu hz hq => by obtain rfl := hu; obtain rfl := hz; exact is_none_gen (hq s.toks)) hb
theorem EvT.notInS {t : Addr} {vs : List Value} {ys : List Str} {x : Str} (h1 : Ev (model prog w) A env h eAZ (IsS x)) (h2 : Ev (model prog w) A env h eB (· = .ref t)) (ht : IsTup h t vs.toArray) (hi : StrsAre vs ys) (hb : autoParam (behindInMarks .NotIn eB = false) tA0) :
  EvT (model prog w) A env h (.Compare eAZ [.NotIn] [eB] pos) (!(ys.any (· == x))) :=
 EvT.cmp h1 h2 (fun s Q E u z hh hu hz hq => by
  obtain ⟨t, rfl⟩ := hu
  obtain rfl := hz
  subst hh
  exact notin_tuple_strs ht (by simpa using hi) (hq s.toks)) hb
end
theorem fld_get {T : List (Addr × Obj)} {kvs : List (Str × Value)} {D : FD} (h : Fld T kvs D) : ∀ {i : Nat} {k : Str} {v : Value}, kvs[i]? = some (k, v) -> ∃ x, D[i]? = some (k, x) /\ VIn T v x := by
 induction h with
 | nil => intro i k v e; simp at e
 | cons a _ ih =>
  intro i k v e
  cases i with
  | zero => cases (show some _ = some (k, v) from e); exact ⟨_, rfl, a⟩
  | succ i => exact ih (by simpa using e)
structure OkMsg (k : Nat) (D : FD) : Prop where
 type : dAt D (oS "type") = some (.str (kname k))
 each : ∀ p ∈ D, (anames k).any (· == p.1) = true /\ okV p.1 p.2
theorem check_msgdict (w : World) (news : List (Addr × Obj)) {k : Nat} (hk : k < 18) {d : Addr} {o : Obj} {D : FD} {T : List (Addr × Obj)} (hm : (d, o) ∈ news) (hD : DictIs rW.prog w T d o D) (hT : TOk w T news) (hg : OkMsg k D) :
  Gives w 170 4 12 [.ref d] [] news NoneNew := by
 refine entr 3 9 [(oS "msgdict", .ref d)] (fun A g L s m a F hm' N => ?_)
 have e1 := hm' _ (.head _)
 clear hm'
 dsimp only at e1
 obtain ⟨es, n, sl, sk, sn⟩ := specs_lk w.params
 obtain ⟨es2, n2, tl, tk2, _, tn, _⟩ := spec_lk w.params hk
 obtain ⟨al, alk, als⟩ := attrs_lk w.params hk
 have G := fun {h} {m} (F : Fr g L h m) => a.gl.keeps F.keep
 refine st_assign F N (Ev.kGet F a.K sl sk (sn k hk) (by decide) (Ev.glob (G F) (by k_is)) (Ev.mono (Ev.dItem N hm (Ev.nm F e1) Ev.str hD hg.type) fun v hv => by cases hv; exact ⟨_, rfl⟩)) ?_
 rintro _ h1 tk1 rfl F1 N1
 refine st_if (EvT.isNone (Ev.nm F1 rfl)) (fun tk b => nomatch b) (fun tk b => st_nil ?_)
 obtain ⟨lo, kvs, hd, hf⟩ := hD
 refine st_forItems a.hh F1 N1 hm hd lo (Ev.nm F1 e1) (fun i m => m (oS "spec") = some (.ref (specA k))) rfl ?_ ?_ passes_never
 ·intro i kx t x m2 h tk newsA hkv hJ hsub F2 N2
  obtain ⟨fx, hDi, hv⟩ := fld_get hf hkv
  obtain ⟨ha, hok⟩ := hg.each _ (List.mem_of_getElem? hDi)
  refine st_if (EvT.notInS (Ev.nmS F2 rfl) (Ev.kItem F2 a.K tl tk2 tn (Ev.nm F2 hJ) Ev.str) (tupK (a.K.keeps F2.keep) alk) als) (fun tk b => absurd b (by rw [ha]; exact Bool.false_ne_true)) (fun tk b => st_nil ?_)
  refine st_exprN F2 N2 (EvN.fn (RN := NoneNew) (a.less (D' := 3) (U' := 9) (by decide) (by decide)) (fun h F N => Ev.glob (G F) (by k_is)) (by k_is) (fun h F N => EvL.cons (Ev.nmS F rfl) (EvL.one (Ev.nm F rfl) rfl)) (fun vs hvs => ?_)) ?_
  ·obtain ⟨_, _, rfl, ⟨t2, rfl⟩, _, rfl, rfl⟩ := hvs
   exact check_value w newsA hv (hT.mono hsub) hok
  ·intro y81 y82 h3 tk3 y83 l3 F3 N3
   obtain ⟨rfl, rfl⟩ := y83
   exact st_nil ⟨h3, tk3, _, rfl, F3, N3, hJ⟩
 ·intro m2 h tk hJ F2 N2
  exact st_nil (ret_none F2 N2)
section
variable {prog : Program} {w : World} {A : Around} {env : Env} {h hZ : Heap} {L : Addr} {m : Str -> Option Value} {news : List (Addr × Obj)} {e eAZ eB : Expr} {R : Value -> Prop} {pos pA pB : Pos} {s : Shared} {Q : Flow -> Shared -> Prop} {E : Value -> Shared -> Prop} {rest body : List Stmt}
theorem Ev.intOf {x : Str} {n : Int} (G : Gl w h) (he : Ev (model prog w) A env h eB (IsS x)) (hn : PySem.intText? x = some n) (hz : x.length <= 640)
  (hg : autoParam (env.globals = mainGlobals) tA0) (hbl : autoParam (env.builtins = builtinsNs) tA0) (hk : autoParam (env.scope.kind = .function) tA0) (hx : autoParam (env.kindOf (oS "int") = some .globalImplicit) tA0)
  (hs : autoParam (starEach [eB] env = (false, eval eB env) :: starEach [] env) tA0) (hnn : autoParam (((backTo pos (starEach [] env)).any fun x => x.1) = false) tA0)
  (hc : autoParam (eval (.Call (.Name (oS "int") pA) [eB] [] pos) env = (do let f <- eval (.Name (oS "int") pA) env; callWith pos f [] (backTo pos (starEach [eB] env)) (backToKw pos (keywordEach [] env)))) tA0) :
  Ev (model prog w) A env h (.Call (.Name (oS "int") pA) [eB] [] pos) (IsI n) := by
 refine Ev.callT (f := "int") (RL := fun vs => ∃ v, vs = [v] /\ IsS x v) (Ev.built G (gint _) (by rfl) (by decide) hg hbl hk hx) (EvL.one he hs) (fun s Q E vs hh hvs hq => ?_) hs hnn hc
 obtain ⟨v, rfl, t, rfl⟩ := hvs
 exact KIN.call_text hn hz (hq _ _ ⟨_, rfl⟩)
theorem st_tryOk {hAZ : ExceptHandler} {hs : List ExceptHandler} (h : wpAny (model prog w) A (execs body env) (fun f sA => match f with
  | .next => wpAny (model prog w) A (execs [] env) (fun f s' => match f with | .next => wpAny (model prog w) A (execs rest env) Q E s' | f => Q f s') E sA
  | f => Q f sA) Never s) : wpAny (model prog w) A (execs (.Try body (hAZ :: hs) [] [] pos :: rest) env) Q E s := by
 refine wpAny_execs_cons (wpAny_Try_except (wpAny_mono h (fun f sA hf => ?_) fun _ _ x => x.elim))
 cases f <;> exact hf
end
theorem parse_time (w : World) (news : List (Addr × Obj)) {x : Str} {t : Tok} {n : Int} (hn : PySem.intText? x = some n) (hz : x.length <= 640) : Gives w 239 1 3 [.str x t] [] news (fun v new => IsI n v /\ new = []) := by
 refine entr 0 0 [(oS "value", .str x t)] (fun A g L s m a F hm N => ?_)
 have e1 := hm _ (.head _)
 refine st_tryOk (st_ret (Ev.intOf (a.gl.keeps F.keep) (Ev.nmS F e1) hn hz) fun v tk hv => ?_)
 exact ⟨[], _, tk, m, rfl, F, N, fun _ _ _ hx => absurd hx List.not_mem_nil, hv, rfl⟩
section
variable {prog : Program} {w : World} {A : Around} {env : Env} {h hZ : Heap} {L : Addr} {m : Str -> Option Value} {news : List (Addr × Obj)} {e eAZ eB eC : Expr} {R : Value -> Prop} {RN : Value -> List (Addr × Obj) -> Prop} {x y : Str} {i j : Int} {pos pA pB : Pos} {s : Shared} {Q : Flow -> Shared -> Prop} {E : Value -> Shared -> Prop} {rest body : List Stmt}
theorem Ev.neg (h1 : Ev (model prog w) A env h e (IsI i)) : Ev (model prog w) A env h (.UnaryOp .USub e pos) (IsI (-i)) := fun s Q E hs hq =>
 UnaryOp_ (h1 s _ E hs fun v tk hv => by obtain ⟨t, rfl⟩ := hv; exact neg_int (hq _ _ ⟨_, rfl⟩))
theorem EvN.slice (h1 : ∀ h, Fr hZ L h m -> Ev (model prog w) A env h eAZ (IsS x)) (h2 : ∀ h, Fr hZ L h m -> Ev (model prog w) A env h eB (IsI i)) (h3 : ∀ h, Fr hZ L h m -> Ev (model prog w) A env h eC (IsI j)) (hz : x.length <= 999999)
  (hs : autoParam (∀ t a, subscripted (.Slice (some eB) (some eC) Option.none pA) false (.str x t) (.ref a) = operate [.ref a, .str x t] (getItem (.str x t) (.ref a))) tA4)
  (ht : autoParam (∀ t r, letTemporaryGo eAZ (.str x t) r = pure ()) tA4) :
  EvN (model prog w) A env hZ L m news (.Subscript eAZ (.Slice (some eB) (some eC) Option.none pA) pos) (fun v new => IsS (Txt.slice x (some i) (some j)) v /\ new = []) := fun s Q E F N hq => by
 refine Subscript_ (h1 _ F s _ E rfl fun u tk hu => ?_)
 obtain ⟨t, rfl⟩ := hu
 refine wpAny_Slice (h2 _ F (Tk s tk) _ E rfl fun v tk2 hv => h3 _ F (Tk s tk2) _ E rfl fun z tk3 hz' => wpAny_pure ?_)
 obtain ⟨ti, rfl⟩ := hv
 obtain ⟨tj, rfl⟩ := hz'
 exact slice_strN_ss (s := (Tk s tk3)) F N (fun h' t' k F' N' => hq _ [] h' k ⟨⟨t', rfl⟩, rfl⟩ (fun _ _ _ hx => absurd hx List.not_mem_nil) F' N') (hs t _) (ht t) (by rw [sizeLine_eq]; omega)
theorem EvN.compL {elt iter : Expr} {px : Pos} {scope : Scope} {P : List Value -> Prop} {FV' : Value -> Value -> Prop} {D U : Nat} (a : At w A env hZ L D U)
  (hit : EvN (model prog w) A env hZ L m news iter (NewL P)) (hz : ∀ items, P items -> items.length <= 999)
  (helt : ∀ items h C mCZ v, P items -> v ∈ items -> Gl w h -> h.Ns C mCZ -> mCZ x = some v -> Ev (model prog w) A (compEnv scope C env) h elt (FV' v))
  (hfree : autoParam (∀ y ∈ scope.names, y.2 ≠ .free) tA1) (hcell : autoParam (∀ y ∈ scope.names, y.2 ≠ .cell) tA1) (hkind : autoParam (scope.kind = .function) tA0)
  (hnames : autoParam (∀ y ∈ scope.names, y.2 = .local -> scope.names.lookup y.1 = some .local) tA1) (hx : autoParam (scope.names.lookup x = some .local) tA0) (hs : autoParam (∀ x, foldedSetIterable iter env x = pure x) tA2) :
  EvN (model prog w) A env hZ L m news (.ListComp elt [⟨.Name x px, iter, [], 0⟩] scope pos) (fun v new => ∃ (D : Addr) (ys : List Value) (n : Nat) (items : List Value), v = .ref D /\ new = [(D, listOf ys.toArray n)] /\ P items /\ Paired FV' items ys) := fun s Q E F N hq => by
 refine wpAny_ListComp_walk (fun _ => true) FV' hfree hcell hkind hnames hx (hit s _ E F N fun v new0 g tk hv hlx F1 N1 => ?_) hs
 obtain ⟨l, items, n0, new1, rfl, rfl, hP0⟩ := hv
 have hl : g.IsList l items.toArray := N1.isList (.head _)
 have hz := hz _ hP0
 have N2 : News hZ L g news := fun p hp => N1 p (zR _ hp)
 replace hq : ∀ v new h' tk, (∃ (D : Addr) (ys : List Value) (n : Nat) (items : List Value), v = .ref D /\ new = [(D, listOf ys.toArray n)] /\ P items /\ Paired FV' items ys) -> (Ap news new) -> Fr hZ L h' m -> News hZ L h' (new ++ news) -> Q v (St s h' tk) := hq
 clear N1 hlx F N
 generalize hs0 : ((St s g tk) : Shared) = s1
 have hsg : s1.heap = g := by rw [<- hs0]
 replace hq : ∀ v new h' tk, (∃ (D : Addr) (ys : List Value) (n : Nat) (items : List Value), v = .ref D /\ new = [(D, listOf ys.toArray n)] /\ P items /\ Paired FV' items ys) -> (Ap news new) -> Fr hZ L h' m -> News hZ L h' (new ++ news) -> Q v (St s1 h' tk) := by rw [<- hs0]; exact hq
 subst hsg
 have F := F1
 have N := N2
 have hlt : l < s1.heap.objs.size := by obtain ⟨_, e, _⟩ := hl; exact Heap.lt_size e
 have hsz : items.toArray.size = items.length := List.size_toArray
 refine wpAny_pyIter_list hl ?_
 have up : ∀ (o : Obj) b o', s1.heap.get? b = some o' -> (s1.heap.push o).get? b = some o' := fun o b o' e => Heap.get?_push_of_some _ e
 refine ⟨_, _, _, _, _, _, rfl, Walks.list a.hh s1.heap.objs.size l (Nat.ne_of_lt hlt) items.toArray, by rw [hsz, sizeLine_eq]; omega, ⟨⟨_, Heap.get?_push_size _ rfl, rfl, rfl⟩, ?_⟩, ?_, ⟨?_, ?_⟩, ?_⟩
 ·obtain ⟨o, e, r⟩ := hl
  exact ⟨o, up _ _ _ e, r⟩
 ·intro b hb
  show b < (s1.heap.push _).objs.size
  rw [Heap.size_push]
  rcases zC.mp hb with rfl | hb
  ·exact Nat.lt_succ_self _
  ·rw [zS.mp hb]; exact Nat.lt_succ_of_lt hlt
 ·intro C i v sC mCZ E' _ _ _ _ _
  rw [List.forIn_nil]
  exact wpAny_pure ⟨rfl, sC.heap, sC.toks, rfl, fun _ _ e => e⟩
 ·intro C i v sC mCZ E' hP _ hns hmx hk _
  have hG : Gl w sC.heap := a.gl.keeps fun b o e => hk b o (fun hb => by
   rw [zS.mp hb] at e
   have := next_is_new F
   rw [e] at this; cases this) (up _ _ _ (F.keep b o e))
  refine helt items sC.heap C mCZ v hP0 ?_ hG hns hmx sC _ E' rfl fun z tk' hz' => ⟨hz', sC.heap, tk', rfl, fun _ _ e => e⟩
  exact List.mem_of_getElem? (by simpa using hP)
 ·intro D h' tk' ys vs hD hL' hpl hlen hP hpair hk
  obtain ⟨n, hDg⟩ := hpl
  have hold : ∀ b o, s1.heap.get? b = some o -> h'.get? b = some o := fun b o e => hk b o (fun hb => by
   rw [zS.mp hb] at e
   exact absurd (Heap.lt_size e) (Nat.lt_irrefl _)) (up _ _ _ e)
  have hDs : s1.heap.get? D = Option.none := by
   cases e : s1.heap.get? D with
   | none => rfl
   | some o => have := up { cls := .type "list_iterator", data := .fields #[.ref l, .int 0 0] } _ _ e; rw [show _ = _ from hD] at this; cases this
  have hv : vs = items := by
   refine List.ext_getElem? fun j => ?_
   rcases Nat.lt_or_ge j vs.length with hj | hj
   ·have := hP j vs[j] (List.getElem?_eq_getElem hj)
    rw [List.getElem?_eq_getElem hj]
    simpa using this.symm
   ·rw [List.getElem?_eq_none hj, List.getElem?_eq_none (by rw [hlen, hsz] at hj; exact hj)]
  subst hv
  rw [List.filter_eq_self.mpr (fun _ _ => rfl)] at hpair
  refine hq _ [(D, listOf ys.toList.toArray n)] h' tk' ⟨D, ys.toList, n, _, rfl, rfl, hP0, hpair⟩ (fun q hq x hx => ?_) (F.keeps hold) (fun p hp => ?_)
  ·rw [zS.mp hx]
   intro e
   have := (N q hq).1
   rw [e, hDs] at this; cases this
  ·rcases zC.mp hp with rfl | hp
   ·refine ⟨by rw [Array.toArray_toList]; exact hDg, fun e => ?_, ?_⟩
    ·obtain ⟨oL, _, _, hoL, _⟩ := F.ns
     rw [show D = L from e, hoL] at hDs; cases hDs
    ·cases e : hZ.get? D with
     | none => rfl
     | some o => rw [F.keep _ _ e] at hDs; cases hDs
   ·exact ⟨hold _ _ (N p hp).1, (N p hp).2⟩
end
section
variable {prog : Program} {w : World} {A : Around} {env : Env} {h hZ : Heap} {L : Addr} {m : Str -> Option Value} {news : List (Addr × Obj)} {e eAZ eB eC : Expr} {x y : Str} {pos pA pB : Pos}
theorem Ev.starts {pl : Sem Bool} (h1 : Ev (model prog w) A env h eAZ (IsS x)) (h2 : Ev (model prog w) A env h eB (IsS y))
  (hs : autoParam (starEach [eB] env = (false, eval eB env) :: starEach [] env) tA0) (hnn : autoParam (((backTo pB (starEach [] env)).any fun x => x.1) = false) tA0)
  (hc : autoParam (eval (.Call (.Attribute eAZ (oS "startswith") pA) [eB] [] pB) env = (do
   let ov <- eval eAZ env
   standAt pA.atName
   let (f, first) <- holding [ov] (getMethod ov (oS "startswith") pl)
   callWith pB f first (backTo pB (starEach [eB] env)) [])) tA0) : Ev (model prog w) A env h (.Call (.Attribute eAZ (oS "startswith") pA) [eB] [] pB) (· = .bool (Txt.startswith x y)) := fun s Q E hh hq => by
 refine MethodCall_ (h1 s _ E hh fun v tk hv => ?_) hc
 obtain ⟨t, rfl⟩ := hv
 refine GM.startswith ?_
 refine PyProof.Rows.callWith_method1 (spliced_more (h2 (Tk s tk) _ E hh fun u tk' hu => spliced_none ?_) hs) hs hnn
 obtain ⟨t', rfl⟩ := hu
 exact SC.startswith (hq _ tk' rfl)
end
noncomputable def dataIn (x : Str) : List Str := Txt.split (Txt.slice x (some 1) (some (-1))) (oS ",")
noncomputable def numIn (p : Str) : Int := (PySem.intText? p).getD 0
theorem paired_ints {F : Value -> Value -> Prop} {us ys : List Value} {ps : List Str} (hF : ∀ p v u, p ∈ ps -> IsS p v -> F v u -> IsI (numIn p) u) (h : StrsAre us ps) (hp : Paired F us ys) : IntsAre ys (ps.map numIn) := by
 induction h generalizing ys with
 | nil => cases hp; exact .nil
 | cons y t _ ih =>
  cases hp with
  | cons hf hp =>
   obtain ⟨t2, rfl⟩ := hF y _ _ (.head _) ⟨t, rfl⟩ hf
   exact .cons _ t2 (ih (fun p v u hm => hF p v u (.tail _ hm)) hp)
theorem strs_mem {us : List Value} {ps : List Str} (h : StrsAre us ps) {v : Value} (hv : v ∈ us) : ∃ p, IsS p v /\ p ∈ ps := by
 induction h with
 | nil => cases hv
 | cons y t _ ih =>
  rcases zC.mp hv with e | hv
  ·exact ⟨y, ⟨t, e⟩, .head _⟩
  ·obtain ⟨p, a, b⟩ := ih hv
   exact ⟨p, a, .tail _ b⟩
theorem parse_data (w : World) (news : List (Addr × Obj)) {x : Str} {t : Tok} (hst : Txt.startswith x (oS "(") = true) (hz : x.length <= 9999) (hp : ∀ p ∈ dataIn x, (∃ n, PySem.intText? p = some n) /\ p.length <= 640) (hl : (dataIn x).length <= 999) :
  Gives w 244 1 3 [.str x t] [] news (fun v new => ∃ (a : Addr) (vs : List Value) (n : Nat), v = .ref a /\ new = [(a, listOf vs.toArray n)] /\ IntsAre vs ((dataIn x).map numIn)) := by
 refine entr 0 0 [(oS "value", .str x t)] (fun A g L s m a F hm N => ?_)
 have e1 := hm _ (.head _)
 refine st_if (EvT.and (d := false) (EvT.not (EvT.bool (Ev.starts (Ev.nmS F e1) Ev.str))) (fun h => by rw [hst] at h; cases h)) (fun tk b => by rw [Bool.and_false] at b; cases b) (fun tk b => st_nil ?_)
 have hsl : (Txt.slice x (some 1) (some (-1))).length <= 9999 := Nat.le_trans (PyProof.Txt.length_slice_le x _ _) hz
 refine st_tryOk (st_retN F N (EvN.compL (P := fun us => StrsAre us (dataIn x)) (FV' := fun v u => ∀ p, IsS p v -> p ∈ dataIn x -> IsI (numIn p) u) a
  (EvN.split1 (EvN.mono (EvN.slice (fun h F => Ev.nmS F e1) (fun h F => Ev.int) (fun h F => Ev.neg Ev.int) (by omega)) fun v new h => h.1) (fun h F => Ev.str) (by decide +kernel) (by omega))
  (fun items hi => by rw [strs_len hi]; exact hl) (fun items h C mCZ v hi hv G hns hmx => ?_)) ?_)
 ·obtain ⟨p, ⟨t2, rfl⟩, hmem⟩ := strs_mem hi hv
  obtain ⟨⟨n, hn⟩, hl6⟩ := hp p hmem
  refine Ev.mono (Ev.intOf G (Ev.mono (Ev.nmNs hns hmx) fun _ e => ⟨t2, e⟩) hn hl6) fun u hu p' hp' _ => ?_
  obtain ⟨t3, e⟩ := hp'
  cases e
  rw [numIn, hn]; exact hu
 ·intro y81 y82 h2 tk2 y83
  apply ab4 y81 y82 h2 tk2; intro T9 e9
  obtain ⟨D, ys, n, items, rfl, rfl, hi, hpair⟩ := y83
  subst e9
  intro hl2 F2 N2
  refine ⟨_, h2, tk2, m, rfl, F2, N2, hl2, D, ys, n, rfl, rfl, ?_⟩
  exact paired_ints (fun p v u hm hs hf => hf p hs hm) hi hpair
local macro_rules | `(tactic| kfm_hd) => `(tactic| (with_reducible assumption))
section
variable {prog : Program} {w : World} {A : Around} {E : Value -> Shared -> Prop} {s : Shared} {t u u2 : Tok} {x y : Str} {n : Int} {Q : Value -> Shared -> Prop}
theorem fmt_paren (hx : x.length <= 99999) (h : ∀ t' k, Q (.str (oS "(" ++ x ++ oS ")") t') (Tk s k)) : wpAny (model prog w) A (call (.builtin "str.format") [.str (oS "({})") t, .str x u]) Q E s := by
 refine' KFm.call_k ?kfmF ?kfmg ?kfmm h
 case kfmF => kfm_eq
 case kfmg => kfm_args
 case kfmm => kfm_run
theorem fmt_time (h0 : -1000000000 < n) (h1 : n < 1000000000) (h : ∀ t' k, Q (.str (oS "time=" ++ intStr n) t') (Tk s k)) : wpAny (model prog w) A (call (.builtin "str.format") [.str (oS "time={}") t, .int n u]) Q E s := by
 refine' KFm.call_k ?kfmF ?kfmg ?kfmm h
 case kfmF => kfm_eq
 case kfmg => kfm_args
 case kfmm =>
  have hl : (oS (toString n)).length <= 1000000 := Nat.le_trans (intStr_len ⟨h0, h1⟩) (by decide)
  have hd : n.natAbs.log2 < 1920 := shown (N := 1000000000) (by omega) (by omega) (by decide +kernel)
  kfm_run
theorem fmt_attr (hx : x.length <= 99999) (hy : y.length <= 99999) (h : ∀ t' k, Q (.str (x ++ oS " message has no attribute " ++ y) t') (Tk s k)) : wpAny (model prog w) A (call (.builtin "str.format") [.str (oS "{} message has no attribute {}") t, .str x u, .str y u2]) Q E s := by
 refine' KFm.call_k ?kfmF ?kfmg ?kfmm h
 case kfmF => kfm_eq
 case kfmg => exact KFm.args_3 _ _ _
 case kfmm => kfm_run
end
noncomputable def Tab (o : Obj) : Prop := ∃ ps, o = tabObj ps /\ TriplesOk ps.toList
theorem Tab.plain {o : Obj} (h : Tab o) : plainO o := by obtain ⟨ps, rfl, _⟩ := h; exact ⟨by show Value.none ≠ _; decide, by show Value.none ≠ _; decide⟩
theorem hd231 {w : World} {h : Heap} (X : (KK w.params).In h) : CodeHd h 231 227 := ⟨_, _, _, _, _, _, _, _, _, X 231 _ (by with_unfolding_all rfl), rfl, rfl, rfl, rfl, rfl, rfl, rfl, rfl, by decide⟩
theorem genCode {M : Model} {w : World} {A : Around} {E : Value -> Shared -> Prop} {s : Shared} {env : Env} {hZ : Heap} {L : Addr} {o : Obj} {news : List (Addr × Obj)} {pos : Pos} {qn : Str} {scope : Scope} {Q : Value -> Shared -> Prop} (X : (KK w.params).In s.heap) (hc : env.code = .ref 231) (N : News hZ L s.heap ((227, o) :: news)) (ht : Tab o)
  (hQ : ∀ code h' tk o', Heap.ExtBut 227 s.heap h' -> h'.get? 227 = some o' -> Tab o' -> Q code (St s h' tk)) : wpAny M A (genexprCode env pos qn scope) Q E s := by
 obtain ⟨ps, rfl, hp⟩ := ht
 have hP := (N _ (.head _)).1
 have C := hd231 X
 cases e : codeAmong pos ps.toList with
 | none => exact wpAny_genexprCodeX hc (C.code hP hp) (C.tab hP) e fun c' h' tk hx _ _ _ _ htab _ => hQ _ h' tk _ hx htab.2 ⟨_, rfl, by rw [show (ps ++ #[rawInt pos.line, rawInt pos.col, Value.ref c']).toList = ps.toList ++ [rawInt pos.line, rawInt pos.col, .ref c'] by simp]; exact TriplesOk_snoc _ _ _ _ hp⟩
 | some cv => exact wpAny_codeAt_hit hc (C.code hP hp) e (hQ _ s.heap s.toks _ (Heap.ExtBut.refl _ _) hP ⟨ps, rfl, hp⟩)
noncomputable def EvG (M : Model) (A : Around) (env : Env) (hZ : Heap) (L : Addr) (m : Str -> Option Value) (news : List (Addr × Obj)) (e : Expr) (R : Value -> Prop) : Prop :=
 ∀ (s : Shared) (Q E : Value -> Shared -> Prop) (o : Obj), Fr hZ L s.heap m -> News hZ L s.heap ((227, o) :: news) -> Tab o -> AllBare s.gens ->
  (∀ v h' g' tk o', R v -> Tab o' -> AllBare g' -> Fr hZ L h' m -> News hZ L h' ((227, o') :: news) -> Q v (Sg s h' g' tk)) -> wpAny M A (eval e env) Q E s
section
variable {prog : Program} {w : World} {A : Around} {env : Env} {h hZ : Heap} {L : Addr} {m : Str -> Option Value} {news : List (Addr × Obj)} {e eAZ eB : Expr} {R : Value -> Prop} {x y : Str} {pos pZ pA pB pC qA qB qC px gpos : Pos} {k0 : Nat} {scope : Scope} {D U : Nat}
theorem passing_all (n : Nat) : passing (fun _ => true) n 0 = List.range n := by
 unfold passing; rw [List.drop_zero]; exact List.filter_eq_self.mpr fun _ _ => rfl
theorem EvG.join {pl : Sem Bool} {sep : Str} {l : Addr} {items : List Value} {ns : List Int} (a : At w A env hZ L D U) (hcode : env.code = .ref 231) (hge : env.globals = mainGlobals) (hbe : env.builtins = builtinsNs)
  (hit : ∀ h, Fr hZ L h m -> Ev (model prog w) A env h e (· = .ref l)) (hl : ∀ h o, Fr hZ L h m -> News hZ L h ((227, o) :: news) -> h.IsTuple l items.toArray) (hi : IntsAre items ns) (hn : ∀ n ∈ ns, Small n) (hz : items.length <= 999) (hok : JoinOk sep (ns.map intStr) = true) (hg227 : hZ.get? 227 = none) (hn227 : ∀ q ∈ news, q.1 ≠ 227)
  (hco : autoParam (scope.isCoroutine = false) tA0) (hclos : autoParam (closureFor scope env = pure []) tA0) (hcell : autoParam (∀ y ∈ scope.names, y.2 ≠ .cell) tA1) (h0 : autoParam (scope.names.lookup (".0" : Str) = some NameKind.local) tA0) (hx : autoParam (scope.names.lookup x = some .local) tA0) (hkind : autoParam (scope.kind = .function) tA0)
  (hxs : autoParam (scope.names.lookup (oS "str") = some .globalImplicit) tA0) (hd : autoParam ((x == ("__debug__" : Str)) = false) tA1) (hs9 : autoParam (∀ x, genFold e env x = pure x) tA2)
  (hs : autoParam (starEach [.GeneratorExp (.Call (.Name (oS "str") qA) [.Name x qB] [] qC) [⟨.Name x px, e, [], 0⟩] scope gpos] env = (false, eval (.GeneratorExp (.Call (.Name (oS "str") qA) [.Name x qB] [] qC) [⟨.Name x px, e, [], 0⟩] scope gpos) env) :: starEach [] env) tA0) (hnn : autoParam (((backTo pB (starEach [] env)).any fun x => x.1) = false) tA0)
  (hc : autoParam (eval (.Call (.Attribute (.Constant (.str sep) k0 pZ) (oS "join") pA) [.GeneratorExp (.Call (.Name (oS "str") qA) [.Name x qB] [] qC) [⟨.Name x px, e, [], 0⟩] scope gpos] [] pB) env = (do
   let ov <- eval (.Constant (.str sep) k0 pZ) env
   standAt pA.atName
   let (f, first) <- holding [ov] (getMethod ov (oS "join") pl)
   callWith pB f first (backTo pB (starEach [.GeneratorExp (.Call (.Name (oS "str") qA) [.Name x qB] [] qC) [⟨.Name x px, e, [], 0⟩] scope gpos] env)) [])) tA0) :
  EvG (model prog w) A env hZ L m news (.Call (.Attribute (.Constant (.str sep) k0 pZ) (oS "join") pA) [.GeneratorExp (.Call (.Name (oS "str") qA) [.Name x qB] [] qC) [⟨.Name x px, e, [], 0⟩] scope gpos] [] pB) (IsS (Txt.join sep (ns.map intStr))) := fun s Q E o F N ht hb hq => by
 obtain ⟨p, loose, mean, mg, mb, A₀, base, outer, B, T, hA⟩ := a.ex
 obtain ⟨bm, ob, b1, b2, b3, b4, b5, b6⟩ := T.bmain
 refine MethodCall_ (Ev.str s _ E rfl fun v tk hv => ?_) hc
 obtain ⟨t, rfl⟩ := hv
 refine GM.join ?_
 refine PyProof.Rows.callWith_method1 (spliced_more ?_ hs) hs hnn
 refine wpAny_GeneratorExp_walksQ a.hh hco hclos hcell h0 hx hkind (by have := a.dp; omega) (hit _ F (Tk s tk) _ E rfl fun v tk1 hv => ?_) hs9
 subst hv
 have hl0 := hl _ _ F N
 refine wpAny_pyIter_tuple (s := (Tk s tk1)) hl0 ⟨(T.nolimit.keeps F.keep).push _, ?_⟩
 have hsz : items.toArray.size = items.length := List.size_toArray
 have hlt : l < s.heap.objs.size := by obtain ⟨_, e, _⟩ := hl0; exact Heap.lt_size e
 have h227 : 227 < s.heap.objs.size := Heap.lt_size (N _ (.head _)).1
 have hl227 : l ≠ 227 := fun e => by
  obtain ⟨o1, ho1, hc1, ep, hd1⟩ := hl0
  rw [e, (N _ (.head _)).1] at ho1
  obtain ⟨ps, rfl, _⟩ := ht
  rw [<- Option.some.inj ho1] at hd1
  cases hd1
 generalize hI : s.heap.objs.size = I at *
 have up : ∀ b o', s.heap.get? b = some o' -> (s.heap.push { cls := .type "tuple_iterator", data := .fields #[.ref l, .int 0 0] }).get? b = some o' := fun b o' e => Heap.get?_push_of_some _ e
 have hIn : s.heap.get? I = none := by cases e : s.heap.get? I with
  | none => rfl
  | some o1 => have := Heap.lt_size e; rw [hI] at this; exact absurd this (Nat.lt_irrefl _)
 generalize hh1 : s.heap.push { cls := .type "tuple_iterator", data := .fields #[.ref l, .int 0 0] } = h1 at up
 have hitI : h1.get? I = some { cls := .type "tuple_iterator", data := .fields #[.ref l, .int 0 0] } := by rw [<- hh1, <- hI]; exact Heap.get?_push_size _ rfl
 have h1s : h1.objs.size = I + 1 := by rw [<- hh1, Heap.size_push, hI]
 have N1 : News hZ L h1 ((227, o) :: news) := fun q hq => ⟨up _ _ (N q hq).1, (N q hq).2⟩
 refine genCode (s := (St s h1 tk1)) (a.K.keeps fun b o e => up _ _ (F.keep b o e)) hcode N1 ht fun code h2 tk2 o' hx2 ho' ht' => ?_
 have hx2 : ∀ b o', b ≠ 227 -> h1.get? b = some o' -> h2.get? b = some o' := hx2
 have up2 : ∀ b o', b ≠ 227 -> s.heap.get? b = some o' -> h2.get? b = some o' := fun b o' hb e => hx2 b o' hb (up b o' e)
 have F2 : ∀ b o', hZ.get? b = some o' -> h2.get? b = some o' := fun b o' e => up2 b o' (fun q => by rw [q, hg227] at e; cases e) (F.keep _ _ e)
 have hL : L ≠ 227 := fun q => (N _ (.head _)).2.1 q.symm
 refine wpAny_builtinsFor (s := (St s h2 tk2)) (by rw [hge]; exact T.g.keeps F2) b1 b2 (F2 _ _ b3) b4 b5 b6 ?_
 have hit2 : h2.get? I = some { cls := .type "tuple_iterator", data := .fields #[.ref l, .int 0 0] } := hx2 _ _ (fun q => by rw [q] at h227; exact Nat.lt_irrefl _ h227) hitI
 have hl2 : h2.IsTuple l items.toArray := by obtain ⟨o1, e1, r⟩ := hl0; exact ⟨o1, up2 _ _ hl227 e1, r⟩
 have hIl : l < I := hlt
 have hnl2 : h2.NoLimit := T.nolimit.keeps F2
 have hI2 : I < h2.objs.size := Heap.lt_size hit2
 refine ⟨I, [I, l], [I], items.length, (fun i v => items.toArray[i]? = some v), (fun i h => h.IsTupleIter I l i /\ h.IsTuple l items.toArray), fun _ => true, fun i y => ∀ n t, items[i]? = some (.int n t) -> IsS (intStr n) y, rfl, fun A' hA => by rw [<- hsz]; exact Walks.tuple hA I l (Nat.ne_of_lt hIl) items.toArray, ⟨⟨_, hit2, rfl, rfl⟩, hl2⟩, ?_, hnl2, ?_, ?_, ?_⟩
 ·intro b hb
  show b < h2.objs.size
  rcases zC.mp hb with rfl | hb
  ·exact hI2
  ·rw [zS.mp hb]; exact Nat.lt_trans hIl hI2
 ·intro hm
  have hc : cStatics < s.heap.objs.size := let ⟨_, hn, _⟩ := T.nolimit.keeps F.keep; hn.lt
  rw [zS.mp hm, hI] at hc
  exact Nat.lt_irrefl _ hc
 ·intro href hhref
  refine ⟨?_, ?_⟩
  ·intro A' E' i v sB mBZ _ _ _ _ _
   rw [List.forIn_nil]
   exact wpAny_pure ⟨rfl, sB.heap, sB.toks, rfl, fun _ _ e => e⟩
  ·intro A' E' i v sB mBZ _ hP _ hns hmx hk
   have hv : v ∈ items := List.mem_of_getElem? (by simpa using hP)
   obtain ⟨n, t2, rfl, hnm⟩ := ints_mem hi hv
   have hG : Gl w sB.heap := a.gl.keeps fun b o' e => by
    have hb : b < I := by rw [<- hI]; exact Heap.lt_size (F.keep _ _ e)
    exact hk b (List.mem_range.mpr (Nat.lt_trans hb hI2)) (fun q => by rw [zS.mp q] at hb; exact Nat.lt_irrefl _ hb) o' (hhref _ _ (F2 _ _ e))
   refine Ev.strI (env := genEnv scope [] h2.objs.size code builtinsNs env) hG (Ev.mono (Ev.nmNs hns hmx hkind hx hd) fun _ e => ⟨t2, e⟩) (hn n hnm) hge rfl hkind hxs rfl rfl rfl sB _ E' rfl fun z tk' hz' => ⟨?_, sB.heap, tk', rfl, fun _ _ e => e⟩
   intro n' t' e
   have e2 : items[i]? = some (.int n t2) := by simpa using hP
   rw [e2] at e
   cases e
   exact hz'
 ·intro ga h5 tk5 gs hgb hag hsz5 hk5 W hat
  refine spliced_none ?_
  rw [passing_all] at W
  refine SC.joinGen W.in4_2 (fun i s' st => st.1.typeIs) hat (fun b hb => ?_) List.mem_cons_self (fun j v hv => ?_) (fun s' lt hm hacc => ?_) (by rw [List.length_range, sizeLine_eq]; omega)
  ·show b < h5.objs.size
   rw [hsz5]
   rcases zC.mp hb with rfl | hb
   ·exact Nat.lt_succ_self _
   ·rcases zC.mp hb with rfl | hb
    ·exact Nat.lt_succ_of_lt hag
    ·exact Nat.lt_succ_of_lt (Nat.lt_trans (List.mem_range.mp hb) hag)
  ·obtain ⟨i, hi', hF⟩ := hv
   have hil : i < items.length := by
    have := List.mem_of_getElem? hi'
    exact List.mem_range.mp this
   obtain ⟨n, t2, e, _⟩ := ints_mem hi (List.getElem_mem hil)
   obtain ⟨u, hu⟩ := hF n t2 (by rw [List.getElem?_eq_getElem hil, e])
   exact ⟨_, u, hu⟩
  ·have hls : lt.map (·.1) = ns.map intStr := by
    obtain ⟨hs1, hs2⟩ := hacc
    have hll : lt.length = items.length := by simpa [strValues] using hs1
    have key : ∀ (items : List Value) (ns : List Int) (lt : List (Str × Tok)), IntsAre items ns -> lt.length = items.length -> (∀ j : Nat, ∀ q : Str × Tok, lt[j]? = some q -> ∀ n t, items[j]? = some (.int n t) -> q.1 = intStr n) -> lt.map (·.1) = ns.map intStr := by
     intro items ns lt h
     induction h generalizing lt with
     | nil => intro h _; rw [List.length_eq_zero_iff.mp h]; rfl
     | cons n t _ ih =>
      intro h1 h2
      cases lt with
      | nil => cases h1
      | cons q lt =>
       rw [List.map_cons, List.map_cons, ih lt (by simpa using h1) (fun j q hq n t e => h2 (j + 1) q (by simpa using hq) n t (by simpa using e)), h2 0 q rfl n t rfl]
    refine key items ns lt hi hll fun j q hq n t e => ?_
    obtain ⟨i, hi', hF⟩ := hs2 j (.str q.1 q.2) (by simp [strValues, hq])
    have hjl : j < items.length := (List.getElem?_eq_some_iff.mp e).1
    have hij : i = j := by
     rw [List.getElem?_eq_getElem (by rw [List.length_range]; exact hjl)] at hi'
     simpa using hi'.symm
    subst hij
    obtain ⟨u, hu⟩ := hF n t e
    exact (Value.str.inj hu).1
   rw [hls]
   refine ⟨hok, fun t' k => ?_⟩
   have hkeep : ∀ b o1, b < h2.objs.size -> b ≠ I -> h2.get? b = some o1 -> s'.heap.get? b = some o1 := fun b o1 hb hbI e => hm.heap b o1 (fun hw => by
    rcases zC.mp hw with q | q
    ·rw [q] at hb; exact Nat.lt_irrefl _ hb
    ·exact hbI (zS.mp q)) (hk5 b o1 e)
   have old : ∀ b o1, b ≠ 227 -> s.heap.get? b = some o1 -> s'.heap.get? b = some o1 := fun b o1 hb e => by
    have hbI : b < I := by rw [<- hI]; exact Heap.lt_size e
    exact hkeep b o1 (Nat.lt_trans hbI hI2) (Nat.ne_of_lt hbI) (up2 b o1 hb e)
   have hfin := hq (.str (Txt.join sep (ns.map intStr)) t') s'.heap s'.gens k o' ⟨t', rfl⟩ ht' ?_ ⟨F.ns.at' fun o1 e => old L o1 hL e, fun b o1 e => old b o1 (fun q => by rw [q, hg227] at e; cases e) (F.keep _ _ e), F.above⟩ ?_
   ·have e1 : ((Tk s' k) : Shared) = (Sg s s'.heap s'.gens k) := by
     have d1 : s'.drawn = s.drawn := hm.drawn
     have d2 : s'.os = s.os := hm.os
     cases s'; cases s; simp only at d1 d2 ⊢; rw [d1, d2]
    exact (congrArg (Q _) e1).mpr hfin
   ·exact AllBare.movedS (AllBare.push (gens := s.gens) hb hgb) hm
   ·intro q hq'
    rcases zC.mp hq' with rfl | hq'
    ·exact ⟨hkeep 227 o' (Nat.lt_trans (by rw [<- hI] at *; exact h227) hI2) (fun q => by rw [q] at h227; exact Nat.lt_irrefl _ h227) ho', (N _ (.head _)).2⟩
    ·refine ⟨?_, (N q (.tail _ hq')).2⟩
     exact old _ _ (hn227 q hq') (N q (.tail _ hq')).1
end
section
variable {prog : Program} {w : World} {A : Around} {env : Env} {h hZ : Heap} {L : Addr} {m : Str -> Option Value} {news : List (Addr × Obj)} {e eAZ eB eC : Expr} {R : Value -> Prop} {x y sep : Str} {a b : Int} {pos pZ pA pB pC : Pos} {k0 : Nat} {s : Shared} {Q : Flow -> Shared -> Prop} {E : Value -> Shared -> Prop} {rest body : List Stmt}
noncomputable def Shows (x : Str) (v : Value) : Prop := IsS x v ∨ ∃ n, Small n /\ IsI n v /\ x = intStr n
theorem field_shows {s : Shared} {Q E : Value -> Shared -> Prop} {v : Value} (hv : Shows x v) (hz : x.length <= 99999) (hq : ∀ t k, Q (.str x t) (Tk s k)) : wpAny (model prog w) A (formatField v Str.empty) Q E s := by
 rcases hv with ⟨t, rfl⟩ | ⟨n, hn, ⟨t, rfl⟩, rfl⟩
 ·exact wpAny_formatField_str (hq _ s.toks) (hq _ _) (by rw [sizeLine_eq]; omega)
 ·exact wpAny_formatField_int (shown (N := 1000000000) (by omega) (by omega) (by decide +kernel)) (hq _ _)
theorem Ev.fstr (h1 : Ev (model prog w) A env h eAZ (Shows x)) (h3 : Ev (model prog w) A env h eC (Shows y)) (hz : x.length + y.length + sep.length <= 99999)
  (he : autoParam (evalEach [.FormattedValue eAZ (-1) Option.none pA, .Constant (.str sep) k0 pB, .FormattedValue eC (-1) Option.none pC] env = [eval (.FormattedValue eAZ (-1) Option.none pA) env, eval (.Constant (.str sep) k0 pB) env, eval (.FormattedValue eC (-1) Option.none pC) env]) tA0) :
  Ev (model prog w) A env h (.JoinedStr [.FormattedValue eAZ (-1) Option.none pA, .Constant (.str sep) k0 pB, .FormattedValue eC (-1) Option.none pC] pos) (IsS (x ++ sep ++ y)) := fun s Q E hs hq => by
 have e0 : ∀ z : Str, Str.empty ++ z = z := KT.empty_app
 refine wpAny_JoinedStr ?_
 rw [he]
 refine wpAny_FormattedValue_plain (h1 s _ E hs fun v tk hv => field_shows hv (by omega) fun t k => ⟨x, t, rfl, by rw [e0, sizeLine_eq]; omega, ?_⟩)
 refine Ev.str (h := h) _ _ E hs fun v tk2 hv => ?_
 obtain ⟨t2, rfl⟩ := hv
 refine ⟨sep, t2, rfl, by rw [e0, len_append, sizeLine_eq]; omega, ?_⟩
 refine wpAny_FormattedValue_plain (h3 _ _ E hs fun v tk3 hv => field_shows hv (by omega) fun t3 k3 => ⟨y, t3, rfl, by rw [e0, len_append, len_append, sizeLine_eq]; omega, ?_⟩)
 refine ⟨by rw [e0, len_append, len_append, sizeLine_eq]; omega, ?_⟩
 rw [e0]
 exact hq _ _ ⟨_, rfl⟩
theorem EvG.paren {pl : Sem Bool} (he : EvG (model prog w) A env hZ L m news e (IsS x)) (hx : x.length <= 99999)
  (hs : autoParam (starEach [e] env = (false, eval e env) :: starEach [] env) tA0) (hnn : autoParam (((backTo pB (starEach [] env)).any fun x => x.1) = false) tA0)
  (hc : autoParam (eval (.Call (.Attribute (.Constant (.str (oS "({})")) k0 pZ) (oS "format") pA) [e] [] pB) env = (do
   let ov <- eval (.Constant (.str (oS "({})")) k0 pZ) env
   standAt pA.atName
   let (f, first) <- holding [ov] (getMethod ov (oS "format") pl)
   callWith pB f first (backTo pB (starEach [e] env)) [])) tA0) :
  EvG (model prog w) A env hZ L m news (.Call (.Attribute (.Constant (.str (oS "({})")) k0 pZ) (oS "format") pA) [e] [] pB) (IsS (oS "(" ++ x ++ oS ")")) := fun s Q E o F N ht hb hq => by
 refine MethodCall_ (Ev.str (h := s.heap) s _ E rfl fun v tk hv => ?_) hc
 obtain ⟨t, rfl⟩ := hv
 refine KFm.method ?_
 refine PyProof.Rows.callWith_method1 (spliced_more (he (Tk s tk) _ E o F N ht hb fun v h' g' tk' o' hv ht' hb' F' N' => spliced_none ?_) hs) hs hnn
 obtain ⟨t2, rfl⟩ := hv
 exact fmt_paren hx fun t' k => hq _ h' g' k o' ⟨t', rfl⟩ ht' hb' F' N'
theorem Ev.fmtTime {pl : Sem Bool} (he : Ev (model prog w) A env h e (IsI a)) (ha : Small a)
  (hs : autoParam (starEach [e] env = (false, eval e env) :: starEach [] env) tA0) (hnn : autoParam (((backTo pB (starEach [] env)).any fun x => x.1) = false) tA0)
  (hc : autoParam (eval (.Call (.Attribute (.Constant (.str (oS "time={}")) k0 pZ) (oS "format") pA) [e] [] pB) env = (do
   let ov <- eval (.Constant (.str (oS "time={}")) k0 pZ) env
   standAt pA.atName
   let (f, first) <- holding [ov] (getMethod ov (oS "format") pl)
   callWith pB f first (backTo pB (starEach [e] env)) [])) tA0) :
  Ev (model prog w) A env h (.Call (.Attribute (.Constant (.str (oS "time={}")) k0 pZ) (oS "format") pA) [e] [] pB) (IsS (oS "time=" ++ intStr a)) := fun s Q E hh hq => by
 refine MethodCall_ (Ev.str (h := s.heap) s _ E rfl fun v tk hv => ?_) hc
 obtain ⟨t, rfl⟩ := hv
 refine KFm.method ?_
 refine PyProof.Rows.callWith_method1 (spliced_more (he (Tk s tk) _ E hh fun v tk' hv => spliced_none ?_) hs) hs hnn
 obtain ⟨t2, rfl⟩ := hv
 exact fmt_time ha.1 ha.2 fun t' k => hq _ k ⟨t', rfl⟩
theorem st_assignG {o : Obj} (hL : env.locals = L) (F : Fr hZ L s.heap m) (N : News hZ L s.heap ((227, o) :: news)) (ht : Tab o) (hb : AllBare s.gens) (he : EvG (model prog w) A env hZ L m news e R)
  (hr : ∀ v h' g' tk o', R v -> Tab o' -> AllBare g' -> Fr hZ L h' (mput m x v) -> News hZ L h' ((227, o') :: news) -> wpAny (model prog w) A (execs rest env) Q E (Sg s h' g' tk))
  (hx : autoParam (env.kindOf x = some .local) tA0) (hp : autoParam ((env.scope.kind == .class || (env.scope.kind == .module && env.locals != env.globals)) = false) tA0) (hs : autoParam (swapsWith e (some (.Name x pA)) pos.line env = pure false) tA0) :
  wpAny (model prog w) A (execs (.Assign [.Name x pA] e pos :: rest) env) Q E s := by
 subst hL
 exact wpAny_execs_cons (wpAny_Assign_Name (he s _ E o F N ht hb fun v h1 g1 tk o1 hv ht1 hb1 F1 N1 => wpAny_storeName_local hx F1.ns (fun h' hn hs => hr v h' g1 _ o1 hv ht1 hb1 (F1.set hn hs) (N1.set hs)) hp) hs)
end
noncomputable def GivesG (w : World) (f : Addr) (D U : Nat) (vs : List Value) (kw : List (Str × Value)) (news : List (Addr × Obj)) (Post : Value -> List (Addr × Obj) -> Prop) : Prop :=
 ∀ (A : Around) (env : Env) (hZ : Heap) (L : Addr) (m : Str -> Option Value) (s : Shared) (Q E : Value -> Shared -> Prop) (o : Obj), At w A env hZ L D U -> Fr hZ L s.heap m -> News hZ L s.heap ((227, o) :: news) -> Tab o -> AllBare s.gens ->
  (∀ r new h' g' tk' o', Post r new -> (Ap news new) -> Tab o' -> AllBare g' -> Fr hZ L h' m -> News hZ L h' ((227, o') :: (new ++ news)) -> Q r (Sg s h' g' tk')) ->
  wpAny (model rW.prog w) A (call (.ref f) vs kw) Q E s
noncomputable def RetG (g : Heap) (L : Addr) (news : List (Addr × Obj)) (s : Shared) (Post : Value -> List (Addr × Obj) -> Prop) (fl : Flow) (s' : Shared) : Prop :=
 ∃ new h' g' tk' m' o', s' = (Sg s h' g' tk') /\ Fr g L h' m' /\ News g L h' ((227, o') :: (new ++ news)) /\ (Ap news new) /\ Tab o' /\ AllBare g' /\ Post (match fl with | .ret v => v | _ => .none) new
theorem enterG {w : World} {f : Addr} {vs : List Value} {kw : List (Str × Value)} {news : List (Addr × Obj)} {Post : Value -> List (Addr × Obj) -> Prop} (D U : Nat)
  {name qual : Str} {params : Arguments} {body : List Stmt} {scope : Scope} {dV kV doc pm cdv ct oc : Value} {an od : Option Addr} {osl : Array (Option Value)} (binds : List (Str × Value))
  (hb : ∀ (A : Around) (g : Heap) (L : Addr) (s : Shared) (m : Str -> Option Value) (o : Obj), At w A (envOf qual scope L f cdv) g L D U -> Fr g L s.heap m -> (∀ p ∈ binds, m p.1 = some p.2) -> News g L s.heap ((227, o) :: news) -> Tab o -> AllBare s.gens ->
   wpAny (model rW.prog w) A (execs body (envOf qual scope L f cdv)) (RetG g L news s Post) Never s)
  (ho : autoParam ((KK w.params).lookup f = some ⟨oc, od, .func (fnOf name qual params body scope dV kV doc pm an cdv ct), osl⟩) tA3) (hcd : autoParam (codeIn (KK w.params) cdv qual = true) tA3)
  (hbind : autoParam (∀ S, peek (KK w.params) S (bindArgs (fnOf name qual params body scope dV kV doc pm an cdv ct) ⟨vs, kw⟩) = some binds) tA2) (hloc : autoParam ((binds.all fun x => decide (scope.names.lookup x.1 = some .local)) = true) tA0)
  (hn : autoParam (∃ ns, binds.map (·.1) = ns /\ ns.Nodup) tA6) (hco : autoParam (scope.isCoroutine = false) tA0) (hgen : autoParam (scope.isGenerator = false) tA0) (hk : autoParam (scope.kind = .function) tA0) (hcell : autoParam (∀ x ∈ scope.names, x.2 ≠ .cell) tA1) :
  GivesG w f (D + 1) (U + 3) vs kw news Post := by
 obtain ⟨_, rfl, hn⟩ := hn
 intro A env hZ L m s Q E o a F N ht hbare hret
 obtain ⟨p, loose, mean, mg, mb, A₀, base, outer, B, T, hA, bxx⟩ := a.exb
 refine wpAny_call (code_def B F a.K N T hA a.fr a.kd ho hcd (by have := a.dp; omega) (kp_binds (a.K.keeps F.keep) hbind) (locs hloc) (fun g L' hAZ FG F' N' B' X' T' => ?_) hco hgen hk hcell)
 refine wpAny_mono (hb (A.deeper (envOf qual scope L' f cdv)) g L' _ _ o ⟨⟨p, loose, mean, mg, mb, A, base, env :: outer, B', T', by show (A.frames.map _) = _; rw [hA]; rfl⟩, a.hh, rfl, rfl, hk, X', by show A.depth + 1 + D < _; have := a.dp; omega, by show A.units + 3 + U < _; have := a.un; omega, bxx _ _ B'⟩ F' (fun q hq => ?_) N' ht hbare) (fun fl s' hR => ?_) (fun _ _ h => h.elim)
 ·exact lookup_mem (by rw [List.map_reverse]; exact List.pairwise_reverse.mpr (List.Pairwise.imp (fun h e => h e.symm) hn)) (List.mem_reverse.mpr hq)
 ·obtain ⟨new, h', g', tk', m', o', rfl, F2, N2, hl, ht', hb', hp⟩ := hR
  exact ⟨L', m', _, F2, N2, fun kF kN => hret _ new h' g' tk' o' hp hl ht' hb' kF kN⟩
section
variable {prog : Program} {w : World} {A : Around} {env : Env} {h hZ : Heap} {L : Addr} {m : Str -> Option Value} {news : List (Addr × Obj)} {e eAZ eB : Expr} {es : List Expr} {pA pB : Pos}
theorem EvN.joinL {pl : Sem Bool} {sep : Str} {ws : List Str} (ho : ∀ h, Fr hZ L h m -> News hZ L h news -> Ev (model prog w) A env h eAZ (IsS sep))
  (he : EvN (model prog w) A env hZ L m news eB (fun v new => LstIn (new ++ news) (fun ys => StrsAre ys ws) v)) (hok : JoinOk sep ws = true)
  (hs : autoParam (starEach [eB] env = (false, eval eB env) :: starEach [] env) tA0) (hnn : autoParam (((backTo pB (starEach [] env)).any fun x => x.1) = false) tA0)
  (hc : autoParam (eval (.Call (.Attribute eAZ (oS "join") pA) [eB] [] pB) env = (do
   let ov <- eval eAZ env
   standAt pA.atName
   let (f, first) <- holding [ov] (getMethod ov (oS "join") pl)
   callWith pB f first (backTo pB (starEach [eB] env)) [])) tA0) : EvN (model prog w) A env hZ L m news (.Call (.Attribute eAZ (oS "join") pA) [eB] [] pB) (fun v new => IsS (Txt.join sep ws) v) := fun s Q E F N hq => by
 refine MethodCall_ (ho _ F N s _ E rfl fun v tk hv => ?_) hc
 obtain ⟨t, rfl⟩ := hv
 refine GM.join ?_
 refine PyProof.Rows.callWith_method1 (spliced_more (he (Tk s tk) _ E F N fun v new h' tk' hv hl F' N' => spliced_none ?_) hs) hs hnn
 obtain ⟨D, ys, n, rfl, hm, hst⟩ := hv
 obtain ⟨l, rfl, hw⟩ := strs_vals hst
 refine SC.join (l := l) ⟨_, (N' _ hm).1, rfl, n, rfl⟩ hw hok fun t' k => hq _ new h' k ⟨t', rfl⟩ hl F' N'
end
noncomputable def mword (D : FD) (key : Str) : Str :=
 if (key == oS "data") = true then key ++ oS "=" ++ (oS "(" ++ Txt.join (oS ",") ((dSeq D key).map intStr) ++ oS ")")
 else key ++ oS "=" ++ intStr (dInt D key)
structure GoodM (k : Nat) (D : FD) : Prop where
 type : dAt D (oS "type") = some (.str (kname k))
 time : dAt D (oS "time") = some (.int (dInt D (oS "time"))) /\ Small (dInt D (oS "time"))
 int : ∀ key ∈ vnames k, (key == oS "data") = false -> dAt D key = some (.int (dInt D key)) /\ Small (dInt D key)
 seq : ∀ key ∈ vnames k, (key == oS "data") = true -> dAt D key = some (.tup (dSeq D key)) /\ (∀ n ∈ dSeq D key, Small n) /\ (dSeq D key).length <= 99
noncomputable def mwords (k : Nat) (D : FD) : List Str := (vnames k).map (mword D)
noncomputable def timeW (D : FD) (b : Bool) : List Str := if b = true then [oS "time=" ++ intStr (dInt D (oS "time"))] else []
noncomputable def mtext (k : Nat) (D : FD) (b : Bool) : Str := Txt.join (oS " ") (kname k :: mwords k D ++ timeW D b)
theorem vname_len {k : Nat} (hk : k < 18) : ∀ key ∈ vnames k, key.length <= 20 := by
 refine lt18 (p := fun k => ∀ key ∈ vnames k, key.length <= 20) ⟨?_, ?_, ?_, ?_, ?_, ?_, ?_, ?_, ?_, ?_, ?_, ?_, ?_, ?_, ?_, ?_, ?_, ?_⟩ hk
 all_goals decide +kernel
theorem data_len {ns : List Int} (g2 : ∀ n ∈ ns, Small n) (g3 : ns.length <= 99) : (∀ x ∈ ns.map intStr, x.length <= 10) /\ (Txt.join (oS ",") (ns.map intStr)).length <= 2000 := by
 have hw : ∀ x ∈ ns.map intStr, x.length <= 10 := fun x hx => by
  obtain ⟨n, hn, rfl⟩ := List.mem_map.mp hx
  exact intStr_len (g2 n hn)
 have hj := join_len (sep := oS ",") hw
 rw [List.length_map] at hj
 have hc : (oS ",").length = 1 := by decide +kernel
 rw [hc] at hj
 exact ⟨hw, by omega⟩
theorem mword_len {k : Nat} (hk : k < 18) {D : FD} (hg : GoodM k D) : ∀ key ∈ vnames k, (mword D key).length <= 3000 := fun key hm => by
 have h1 := vname_len hk key hm
 unfold mword
 split
 ·rename_i b
  obtain ⟨_, g2, g3⟩ := hg.seq key hm b
  obtain ⟨_, hj⟩ := data_len g2 g3
  simp only [len_append]
  show _ + 1 + (1 + _ + 1) <= _
  omega
 ·rename_i b
  obtain ⟨_, g2⟩ := hg.int key hm (by simpa using b)
  have := intStr_len g2
  simp only [len_append]
  show _ + 1 + _ <= _
  omega
theorem news_swap {hZ h : Heap} {L : Addr} {x y : Addr × Obj} {r : List (Addr × Obj)} (N : News hZ L h (x :: y :: r)) : News hZ L h (y :: x :: r) := fun p hp => N p (by
 rcases zC.mp hp with rfl | hp
 ·exact .tail _ (.head _)
 ·rcases zC.mp hp with rfl | hp
  ·exact .head _
  ·exact .tail _ (.tail _ hp))
noncomputable def M2Led (a : Addr) (c : List Value × Nat × Obj) : List (Addr × Obj) := [(a, listOf c.1.toArray c.2.1), (227, c.2.2)]
noncomputable def M2Inv (k : Nat) (D : FD) (md a : Addr) (bv : Bool) (i : Nat) (c : List Value × Nat × Obj) (m : Str -> Option Value) (g : Array GenState) : Prop :=
 AllBare g /\ Tab c.2.2 /\ StrsAre c.1 (kname k :: (mwords k D).take i) /\ m (oS "msg") = some (.ref md) /\ m (oS "include_time") = some (.bool bv) /\ m (oS "words") = some (.ref a)
theorem msg2str_any (w : World) (news : List (Addr × Obj)) {k : Nat} (hk : k < 18) {md : Addr} {mo : Obj} {D : FD} {T : List (Addr × Obj)} (hm : (md, mo) ∈ news) (hD : DictIs rW.prog w T md mo D) (hT : TOk w T news) (hg : GoodM k D) (hne : ∀ q ∈ news, q.1 ≠ 227) (bv : Bool)
  (vs : List Value) (kw : List (Str × Value)) (hbind : ∀ S, peek (KK w.params) S (bindArgs (mkFn (topFn 32) (oS "msg2str") (.ref 225) (.str (oS "mido.messages.strings") 757) (.ref 231) none) ⟨vs, kw⟩) = some [(oS "msg", .ref md), (oS "include_time", .bool bv)]) :
  GivesG w 232 1 3 vs kw news (fun r new => IsS (mtext k D bv) r /\ new = []) := by
 refine enterG 0 0 [(oS "msg", .ref md), (oS "include_time", .bool bv)] (fun A g L s m o a F hm' N ht hbare => ?_) (hbind := hbind)
 have e1 := hm' _ (.head _)
 have e2 := hm' _ (.tail _ (.head _))
 clear hm'
 dsimp only at e1 e2
 obtain ⟨es, n, sl, sk, sn⟩ := specs_lk w.params
 obtain ⟨es2, n2, sl2, sk2, sv, _⟩ := spec_lk w.params hk
 obtain ⟨l, vlk, vks⟩ := vals_lk w.params hk
 have G := fun {h m} (F : Fr g L h m) => a.gl.keeps F.keep
 have hmem : ∀ (o : Obj), (md, mo) ∈ (227, o) :: news := fun o => .tail _ hm
 refine st_assign F N (Ev.dItem N (hmem o) (Ev.nm F e1) Ev.str hD hg.type) ?_
 intro v1 h1 tk1 hv1 F1 N1
 obtain ⟨t1, rfl⟩ := vin_str hv1
 clear F N
 refine st_assign F1 N1 (Ev.kItem F1 a.K sl sk (sn k hk) (Ev.glob (G F1) (by k_is)) (Ev.nmS F1 rfl)) ?_
 rintro _ h2 tk2 rfl F2 N2
 clear F1 N1
 refine st_assignN rfl F2 N2 (EvN.list (fun h F N => EvL.one (Ev.nmS F rfl)) (by rintro _ ⟨_, rfl, _⟩; exact Nat.le_of_ble_eq_true rfl)) ?_
 intro y81 y82 h3 tk3 y83 l3 F3 N3
 obtain ⟨d, _, ⟨_, rfl, t3, rfl⟩, rfl, rfl⟩ := y83
 have hab : ∀ q ∈ news, q.1 ≠ d := fun q hq => l3 q (.tail _ hq) _ (.head _)
 have hd227 : d ≠ 227 := fun e => l3 _ (.head _) _ (.head _) e.symm
 clear F2 N2 l3
 refine st_for (σ := List Value × Nat × Obj) true (Ev.kItem F3 a.K sl2 sk2 sv (Ev.nm F3 rfl) Ev.str) a.hh (M2Led d) (M2Inv k D md d bv) ([.str (kname k) t3], 0, o) [d, 227] news rfl rfl F3 N3
   (fun q hq hq' => ?_) (fun b hb => ?_) (.inl (a.K _ _ vlk)) ⟨hbare, ht, .cons _ _ .nil, e1, e2, rfl⟩ ?_ ?_ ?_ passes_never
 ·rcases zC.mp hq' with q1 | q1
  ·exact hab q hq q1
  ·exact hne q hq (zS.mp q1)
 ·rcases zC.mp hb with rfl | q1
  ·exact ⟨_, .head _⟩
  ·rw [zS.mp q1]; exact ⟨_, .tail _ (.head _)⟩
 ·intro i y81 m g y82 p hp
  obtain ⟨vs, n, tb⟩ := y81
  obtain ⟨_, htb, _⟩ := y82
  rcases zC.mp hp with rfl | hp
  ·exact ⟨by show Value.type "list" ≠ _; decide, by show Value.type "list" ≠ _; decide⟩
  ·rw [zS.mp hp]; exact htb.plain
 ·clear F3 N3 hbare ht e1 e2 hmem
  intro i y81 m2 h gs tk rest v hv y82 hr hs F N
  obtain ⟨vs, n, tb⟩ := y81
  obtain ⟨hbare, htb, hst, e1, e2, e3⟩ := y82
  dsimp only at hbare htb hst
  obtain ⟨key, tky, rfl, hkey⟩ := strs_get vks hv
  have hmk : key ∈ vnames k := List.mem_of_getElem? hkey
  have hrd : ∀ q ∈ rest, q.1 ≠ d := fun q hq e => hr q hq (by rw [e]; exact .head _)
  have hr2 : ∀ q ∈ rest, q.1 ≠ 227 := fun q hq e => hr q hq (by rw [e]; exact .tail _ (.head _))
  have hmm : (md, mo) ∈ rest := hs _ hm
  have hTr : TOk w T rest := hT.mono hs
  have hvs : vs.length <= 99 := by
   rw [strs_len hst, List.length_cons, List.length_take, mwords, List.length_map]
   have h1 := (mk_facts hk).2.1
   omega
  have hlen := mword_len hk hg key hmk
  have fin : ∀ (v' : Value) (h' : Heap) (tb' : Obj) (g' : Array GenState) (tk' : Nat) (m' : Str -> Option Value), Fr g L h' m' -> IsS (mword D key) v' -> Tab tb' -> AllBare g' -> m' (oS "msg") = some (.ref md) -> m' (oS "include_time") = some (.bool bv) -> m' (oS "words") = some (.ref d) ->
    News g L h' ((d, listOf (vs.toArray.push v') (n + 1)) :: (227, tb') :: rest) -> ForEnd g L s (M2Led d) (M2Inv k D md d bv) [d, 227] i rest (Sg s h' g' tk') := by
   intro y81 h' tb' g' tk' m' F' y82 htb' hb' e1' e2' e3' N'
   obtain ⟨t', rfl⟩ := y82
   refine ⟨(vs ++ [.str (mword D key) t'], n + 1, tb'), m', h', g', tk', rest, rfl, F', fun p hp => N' p ?_, fun q hq => hq, fun q hq e => hr q hq e, hb', htb', ?_, e1', e2', e3'⟩
   ·rcases zA.mp hp with hp | hp
    ·rcases zC.mp hp with rfl | hp
     ·rw [List.push_toArray]; exact .head _
     ·rw [zS.mp hp]; exact .tail _ (.head _)
    ·exact .tail _ (.tail _ hp)
   ·show StrsAre (vs ++ [_]) _
    have : (mwords k D).take (i + 1) = (mwords k D).take i ++ [mword D key] := by
     rw [List.take_add_one]; simp [mwords, hkey]
    rw [this, <- List.cons_append]
    exact strs_append hst (.cons _ _ .nil)
  have N : News g L h ((d, listOf vs.toArray n) :: (227, tb) :: rest) := N
  have hup : ∀ q ∈ rest, q.1 ≠ d := hrd
  obtain ⟨x, hx⟩ : ∃ x, dAt D key = some x := by
   cases b : key == oS "data" with
   | true => exact ⟨_, (hg.seq key hmk b).1⟩
   | false => exact ⟨_, (hg.int key hmk b).1⟩
  refine st_assign F N (Ev.dItem N (.tail _ (.tail _ hmm)) (Ev.nm F e1) (Ev.nmS F rfl) hD hx) ?_
  intro vv h1 tk1 hvv F1 N1
  clear F N
  refine st_if (EvT.eqS (Ev.nmS F1 rfl) Ev.str) (fun tk2 b0 => ?_) (fun tk2 b0 => st_nil ?_)
  ·obtain ⟨g1, g2, g3⟩ := hg.seq key hmk b0
   rw [g1] at hx
   cases hx
   cases hvv with
   | tup hT1 hI =>
   rename_i ta tvs tn
   obtain ⟨hw10, hjl⟩ := data_len g2 g3
   have hlen9 : tvs.length <= 99 := by rw [hI.length]; exact g3
   have hc : (oS ",").length = 1 := by decide +kernel
   have hxl : (oS "(" ++ Txt.join (oS ",") ((dSeq D key).map intStr) ++ oS ")").length <= 2002 := by
    rw [len_append, len_append]; show 1 + _ + 1 <= _; omega
   refine st_assignG rfl F1 (news_swap N1) htb hbare (EvG.paren (EvG.join (l := ta) (items := tvs) (ns := dSeq D key) a rfl rfl rfl (fun h F => Ev.nm F rfl) (fun h o F N => ⟨_, hTr.get a F (fun p hp => N p (.tail _ (.tail _ hp))) _ hT1, rfl, _, rfl⟩) hI g2 (by omega) (joinOk hw10 (by rw [List.length_map, hc]; omega)) (N1 _ (.tail _ (.head _))).2.2 (fun q hq => ?_)) (by omega)) ?_
   ·rcases zC.mp hq with rfl | hq
    ·exact hd227
    ·exact hr2 q hq
   ·intro v2 h2 g2' tk3 tb' hv2 htb' hb' F2 N2
    refine st_nil ?_
    have N3 := news_swap N2
    clear F1 N1 N2
    obtain ⟨t2, rfl⟩ := hv2
    refine st_append (R := IsS (mword D key)) F2 N3 (Ev.nm F2 e3) (Ev.mono (Ev.fstr (x := key) (y := oS "(" ++ Txt.join (oS ",") ((dSeq D key).map intStr) ++ oS ")") (Ev.mono (Ev.nmS F2 rfl) fun _ h => .inl h) (Ev.mono (Ev.nmS F2 rfl) fun _ h => .inl h) ?_) fun v hv => ?_) (fun v _ => .head ?_) (.head _) (by rw [List.size_toArray]; show vs.length <= _; omega) ?_
    ·have h1 := vname_len hk key hmk; show _ + _ + 1 <= _; omega
    ·rw [mword, if_pos b0]; exact hv
    ·intro q hq
     rcases zC.mp hq with rfl | hq
     ·exact Ne.symm hd227
     ·exact hup q hq
    ·intro v3 h4 tk4 hv3 F4 N4
     exact st_nil (fin v3 h4 tb' g2' tk4 _ F4 hv3 htb' hb' e1 e2 e3 N4)
  ·obtain ⟨g1, g2⟩ := hg.int key hmk b0
   rw [g1] at hx
   cases hx
   obtain ⟨tv, rfl⟩ := vin_int hvv
   have hil := intStr_len g2
   refine st_append (R := IsS (mword D key)) F1 N1 (Ev.nm F1 e3) (Ev.mono (Ev.fstr (x := key) (y := intStr (dInt D key)) (Ev.mono (Ev.nmS F1 rfl) fun _ h => .inl h) (Ev.mono (Ev.nmI F1 rfl) fun _ h => .inr ⟨_, g2, h, rfl⟩) ?_) fun v hv => ?_) (fun v _ => .head ?_) (.head _) (by rw [List.size_toArray]; show vs.length <= _; omega) ?_
   ·have h1 := vname_len hk key hmk; show _ + _ + 1 <= _; omega
   ·rw [mword, if_neg (ne_true_of_eq_false b0)]; exact hv
   ·intro q hq
    rcases zC.mp hq with rfl | hq
    ·exact Ne.symm hd227
    ·exact hup q hq
   ·intro v3 h4 tk4 hv3 F4 N4
    exact st_nil (fin v3 h4 tb gs tk4 _ F4 hv3 htb hbare e1 e2 e3 N4)
 ·intro y81 m2 h gs tk y82 F N
  obtain ⟨vs, n, tb⟩ := y81
  obtain ⟨hbare, htb, hst, e1, e2, e3⟩ := y82
  dsimp only at hbare htb hst
  have N : News g L h ((d, listOf vs.toArray n) :: (227, tb) :: news) := N
  have hall : (mwords k D).take l.length = mwords k D := List.take_of_length_le (by rw [strs_len vks, mwords, List.length_map]; exact Nat.le_refl _)
  rw [hall] at hst
  have hvs : vs.length <= 4 := by
   rw [strs_len hst, List.length_cons, mwords, List.length_map]
   have h1 := (mk_facts hk).2.1
   omega
  have h3000 : ∀ x ∈ kname k :: mwords k D ++ timeW D bv, x.length <= 3000 := by
   intro x hx
   rcases zA.mp hx with hx | hx
   ·rcases zC.mp hx with rfl | hx
    ·have := kname_len hk; omega
    ·obtain ⟨key, hkm, rfl⟩ := List.mem_map.mp hx
     exact mword_len hk hg key hkm
   ·unfold timeW at hx
    split at hx
    ·rw [zS.mp hx, len_append]
     have := intStr_len hg.time.2
     show 5 + _ <= _
     omega
    ·cases hx
  have hjk : JoinOk (oS " ") (kname k :: mwords k D ++ timeW D bv) = true := by
   refine joinOk (c := 3000) h3000 ?_
   have h1 := (mk_facts hk).2.1
   have h2 : (timeW D bv).length <= 1 := by unfold timeW; split <;> simp
   rw [List.length_append, List.length_cons, mwords, List.length_map]
   have h3 : (oS " ").length = 1 := by decide +kernel
   rw [h3]
   exact Nat.le_trans (Nat.mul_le_mul_right _ (show _ <= 5 by omega)) (by decide)
  refine join_J (fun sB => ∃ h' vs' n' tk', sB = (Sg s h' gs tk') /\ StrsAre vs' (kname k :: mwords k D ++ timeW D bv) /\ Fr g L h' m2 /\ News g L h' ((d, listOf vs'.toArray n') :: (227, tb) :: news)) ?_ ?_
  ·refine wpAny_If (EvT.run (EvT.bool (Ev.nm F e2)) fun tk => ?_)
   split
   ·rename_i b0
    refine st_append (R := IsS (oS "time=" ++ intStr (dInt D (oS "time")))) F N (Ev.nm F e3) (Ev.fmtTime (Ev.dItemI N (.tail _ (.tail _ hm)) (Ev.nm F e1) Ev.str hD hg.time.1) hg.time.2) (fun v _ => .head ?_) (.head _) (by rw [List.size_toArray]; show vs.length <= _; omega) ?_
    ·intro q hq
     rcases zC.mp hq with rfl | hq
     ·exact Ne.symm hd227
     ·exact hab q hq
    ·intro y81 h2 tk3 y82 F2 N2
     obtain ⟨t2, rfl⟩ := y82
     exact st_nil ⟨rfl, h2, vs ++ [.str _ t2], n + 1, tk3, rfl, by rw [timeW, if_pos b0]; exact strs_append hst (.cons _ _ .nil), F2, by rw [List.push_toArray] at N2; exact N2⟩
   ·rename_i b0
    exact st_nil ⟨rfl, h, vs, n, tk, rfl, by rw [timeW, if_neg b0, List.append_nil]; exact hst, F, N⟩
  ·rintro sB ⟨h', vs', n', tk', rfl, hst', F', N'⟩
   refine st_retN F' N' (EvN.joinL (ws := kname k :: mwords k D ++ timeW D bv) (fun h F N => Ev.str) (EvN.mono (EvN.of fun h F N => Ev.nm F e3) (by rintro _ _ ⟨rfl, rfl⟩; exact ⟨d, vs', n', rfl, .head _, hst'⟩)) hjk) ?_
   intro v new h3 tk3 hv hl F3 N3
   exact ⟨[], h3, gs, tk3, m2, tb, rfl, F3, fun p hp => N3 p (zR _ (.tail _ hp)), fun _ _ _ hx => absurd hx List.not_mem_nil, htb, hbare, hv, rfl⟩
theorem msg2str_1 (w : World) (news : List (Addr × Obj)) {k : Nat} (hk : k < 18) {md : Addr} {mo : Obj} {D : FD} {T : List (Addr × Obj)} (hm : (md, mo) ∈ news) (hD : DictIs rW.prog w T md mo D) (hT : TOk w T news) (hg : GoodM k D) (hne : ∀ q ∈ news, q.1 ≠ 227) :
  GivesG w 232 1 3 [.ref md] [] news (fun r new => IsS (mtext k D true) r /\ new = []) := msg2str_any w news hk hm hD hT hg hne true _ _ (by intro _; rfl)
theorem msg2str_2 (w : World) (news : List (Addr × Obj)) {k : Nat} (hk : k < 18) {md : Addr} {mo : Obj} {D : FD} {T : List (Addr × Obj)} (hm : (md, mo) ∈ news) (hD : DictIs rW.prog w T md mo D) (hT : TOk w T news) (hg : GoodM k D) (hne : ∀ q ∈ news, q.1 ≠ 227) (bv : Bool) :
  GivesG w 232 1 3 [.ref md] [(oS "include_time", .bool bv)] news (fun r new => IsS (mtext k D bv) r /\ new = []) := msg2str_any w news hk hm hD hT hg hne bv _ _ (by intro _; rfl)
section
variable {prog : Program} {w : World} {A : Around} {env : Env} {h hZ : Heap} {L : Addr} {m : Str -> Option Value} {news : List (Addr × Obj)} {e eAZ eB eC : Expr} {es : List Expr} {R : Value -> Prop} {RN : Value -> List (Addr × Obj) -> Prop} {x y nA nB : Str} {i : Int} {pos pA pB pC pD : Pos} {s : Shared} {Q : Flow -> Shared -> Prop} {E : Value -> Shared -> Prop} {rest : List Stmt}
theorem EvN.sliceFrom {l : Addr} {vs : List Value} {i : Nat} (h1 : ∀ h, Fr hZ L h m -> Ev (model prog w) A env h eAZ (· = .ref l)) (hm : ∀ h, Fr hZ L h m -> News hZ L h news -> h.IsList l vs.toArray) (h2 : ∀ h, Fr hZ L h m -> Ev (model prog w) A env h eB (IsI i)) (hz : vs.length <= 99999)
  (hs : autoParam (∀ a, subscripted (.Slice (some eB) Option.none Option.none pA) false (.ref l) (.ref a) = operate [.ref a, .ref l] (getItem (.ref l) (.ref a))) tA4)
  (ht : autoParam (∀ r, letTemporaryGo eAZ (.ref l) r = pure ()) tA4) :
  EvN (model prog w) A env hZ L m news (.Subscript eAZ (.Slice (some eB) Option.none Option.none pA) pos) (NewL (· = vs.drop i)) := fun s Q E F N hq => by
 refine Subscript_ (h1 _ F s _ E rfl fun u tk hu => ?_)
 subst hu
 refine wpAny_Slice (h2 _ F (Tk s tk) _ E rfl fun v tk2 hv => wpAny_pure (wpAny_pure ?_))
 obtain ⟨ti, rfl⟩ := hv
 refine kmk_slice (s := (Tk s tk2)) F N (hm _ F N) (IsPart.int _ _) IsPart.none (fun D h' F' N' l1 => ?_) (hs _) ht (by rw [List.size_toArray, sizeLine_eq]; omega)
 rw [slicePick_from'] at N'
 exact hq _ [_] h' tk2 ⟨D, _, 0, [], rfl, rfl, rfl⟩ (fun q hq x hx => by rw [zS.mp hx]; exact Nat.ne_of_lt (l1 q hq)) F' N'
theorem EvN.sliceTo {l : Addr} {vs : List Value} {i : Nat} (h1 : ∀ h, Fr hZ L h m -> Ev (model prog w) A env h eAZ (· = .ref l)) (hm : ∀ h, Fr hZ L h m -> News hZ L h news -> h.IsList l vs.toArray) (h2 : ∀ h, Fr hZ L h m -> Ev (model prog w) A env h eB (IsI i)) (hz : vs.length <= 99999)
  (hs : autoParam (∀ a, subscripted (.Slice Option.none (some eB) Option.none pA) false (.ref l) (.ref a) = operate [.ref a, .ref l] (getItem (.ref l) (.ref a))) tA4)
  (ht : autoParam (∀ r, letTemporaryGo eAZ (.ref l) r = pure ()) tA4) :
  EvN (model prog w) A env hZ L m news (.Subscript eAZ (.Slice Option.none (some eB) Option.none pA) pos) (NewL (· = vs.take i)) := fun s Q E F N hq => by
 refine Subscript_ (h1 _ F s _ E rfl fun u tk hu => ?_)
 subst hu
 refine wpAny_Slice (wpAny_pure (h2 _ F (Tk s tk) _ E rfl fun v tk2 hv => wpAny_pure ?_))
 obtain ⟨ti, rfl⟩ := hv
 refine kmk_slice (s := (Tk s tk2)) F N (hm _ F N) IsPart.none (IsPart.int _ _) (fun D h' F' N' l1 => ?_) (hs _) ht (by rw [List.size_toArray, sizeLine_eq]; omega)
 rw [slicePick_upto'] at N'
 exact hq _ [_] h' tk2 ⟨D, _, 0, [], rfl, rfl, rfl⟩ (fun q hq x hx => by rw [zS.mp hx]; exact Nat.ne_of_lt (l1 q hq)) F' N'
theorem EvN.splitMax {pl : Sem Bool} (h1 : ∀ h, Fr hZ L h m -> Ev (model prog w) A env h eAZ (IsS x)) (h2 : ∀ h, Fr hZ L h m -> Ev (model prog w) A env h eB (IsS y)) (h3 : ∀ h, Fr hZ L h m -> Ev (model prog w) A env h eC (IsI 1)) (hy : (y.length == 0) = false) (hz : x.length <= 999999)
  (hs : autoParam (starEach [eB, eC] env = (false, eval eB env) :: starEach [eC] env) tA0) (hs3 : autoParam (starEach [eC] env = (false, eval eC env) :: starEach [] env) tA0) (hnn : autoParam (((backTo pB (starEach [eC] env)).any fun x => x.1) = false) tA0)
  (hc : autoParam (eval (.Call (.Attribute eAZ (oS "split") pA) [eB, eC] [] pB) env = (do
   let ov <- eval eAZ env
   standAt pA.atName
   let (f, first) <- holding [ov] (getMethod ov (oS "split") pl)
   callWith pB f first (backTo pB (starEach [eB, eC] env)) [])) tA0) : EvN (model prog w) A env hZ L m news (.Call (.Attribute eAZ (oS "split") pA) [eB, eC] [] pB) (NewL fun vs => StrsAre vs (Txt.splitMax x y 1)) := fun s Q E F N hq => by
 refine MethodCall_ (h1 _ F s _ E rfl fun v tk hv => ?_) hc
 obtain ⟨t, rfl⟩ := hv
 refine GM.split ?_
 refine PyProof.Rows.callWith_method1 (spliced_more (h2 _ F (Tk s tk) _ E rfl fun u tk' hu => spliced_more (h3 _ F (Tk s tk') _ E rfl fun u3 tk3 hu3 => spliced_none ?_) hs3) hs) hs hnn
 obtain ⟨t', rfl⟩ := hu
 obtain ⟨t3, rfl⟩ := hu3
 refine splitN2A (s := (Tk s tk3)) F N hy (by decide) (fun l h2 k e hst _ _ F2 N2 => ?_) (by rw [sizeLine_eq]; omega)
 exact hq _ [_] h2 k ⟨_, strValues l, 0, [], rfl, rfl, e ▸ hst⟩ (fun q hq x hx => by rw [zS.mp hx]; exact Nat.ne_of_lt (Heap.lt_size (N q hq).1)) F2 N2
theorem st_unpack2 {kk : Nat} {P : List Value -> Prop} (hh : A.handled = none) (hL : env.locals = L) (F : Fr hZ L s.heap m) (N : News hZ L s.heap news) (he : EvN (model prog w) A env hZ L m news e (NewL P)) (hP : ∀ vs, P vs -> ∃ vA vB, vs = [vA, vB])
  (hr : ∀ vA vB h' tk, P [vA, vB] -> Fr hZ L h' (mput (mput m nA vA) nB vB) -> News hZ L h' news -> wpAny (model prog w) A (execs rest env) Q E (St s h' tk))
  (hx1 : autoParam (env.kindOf nA = some .local) tA0) (hx2 : autoParam (env.kindOf nB = some .local) tA0) (hp : autoParam ((env.scope.kind == .class || (env.scope.kind == .module && env.locals != env.globals)) = false) tA0)
  (hs : autoParam (swapsWithSole [.Tuple [.Name nA pA, .Name nB pB] kk pC] e pos.line env = pure false) tA0)
  (hw : autoParam (swappedStores [.Tuple [.Name nA pA, .Name nB pB] kk pC] e env = pure none) tA0) :
  wpAny (model prog w) A (execs (.Assign [.Tuple [.Name nA pA, .Name nB pB] kk pC] e pos :: rest) env) Q E s := by
 subst hL
 refine wpAny_execs_cons (Assign_Tuple (he s _ E F N fun v new h1 tk hv hl F1 N1 => ?_) hs hw)
 obtain ⟨a, vs, n, new', rfl, rfl, hp1⟩ := hv
 obtain ⟨vA, vB, rfl⟩ := hP vs hp1
 refine kun_list (s := (St s h1 tk)) F1 N1 (N1.isList (.head _)) hh rfl rfl fun h2 F2 N2 => ?_
 show wpAny _ A (assignInOrder [assign (.Name nA pA) env, assign (.Name nB pB) env] [vA, vB]) _ _ _
 have N3 : News hZ env.locals h2 news := fun p hp => N2 p (zR _ hp)
 refine wpAny_bind (wpAny_holding (PyProof.Rows.assign_Name (wpAny_storeName_local hx1 F2.ns (fun h3 hn3 hs3 => ?_) hp)))
 have F3 := F2.set hn3 hs3
 have N4 := N3.set hs3
 refine wpAny_bind (wpAny_holding (PyProof.Rows.assign_Name (wpAny_storeName_local hx2 F3.ns (fun h4 hn4 hs4 => ?_) hp)))
 exact wpAny_pure (hr vA vB h4 _ hp1 (F3.set hn4 hs4) (N4.set hs4))
end
section
variable {prog : Program} {w : World} {A : Around} {E : Value -> Shared -> Prop} {s : Shared}
theorem kw_put {err : Sem Unit} {z} {d : Addr} {kvs : List (Str × Value)} {k : Str} {key v : Value} {Q : Unit -> Shared -> Prop} (hkey : (strKind prog w).is k key = true) (hm : s.heap.DictOf (strKind prog w) d kvs) (hnew : k ∉ kvs.map (·.1))
  (hQ : ∀ h', h'.DictOf (strKind prog w) d (kvs ++ [(k, v)]) -> Heap.SameBut d s.heap h' -> Q () { s with heap := h' }) (hsz : kvs.length <= 999) (hh : z = (strKind prog w).hash k) :
  wpAny (model prog w) A (dictFind d key z >>= fun r => if r.isSome = true then err else dictPut d z key v) Q E s := by
 subst hh
 obtain ⟨o, es, ep, ho, hc, hd, hk, hp, hn⟩ := hm
 have hes : es.size <= 999 := by
  have e1 := hp.length
  have e2 : es.toList.length = es.size := by simp
  omega
 have hidx : (es.findIdx? fun e => (strKind prog w).is k e.key) = kvs.findIdx? fun kv => decide (kv.1 = k) := by
  rw [<- hp.findIdx k]; obtain ⟨l⟩ := es; simp
 have hnone : (es.findIdx? fun e => (strKind prog w).is k e.key) = none := by
  rw [hidx]
  refine List.findIdx?_eq_none_iff.mpr fun kv hkv => ?_
  exact decide_eq_false fun e => hnew (List.mem_map.mpr ⟨kv, hkv, e⟩)
 refine wpAny_bind (wpAny_dictFind_of hkey ho hd hk ?_)
 rw [hnone]
 refine wpAny_bind (m := dictFind _ _ _) (wpAny_dictFind_of hkey ho hd hk ?_)
 rw [hnone]
 refine wpAny_updateDictKeys (hz := by rw [sizeLine_eq]; omega) ho hd (hQ _ ⟨_, _, ep + 1, Heap.get?_update_self _ ho (Obj.isFreed_of_dict (Obj.data_mapDictKeys hd _)),
   hc.mapDictKeys _, Obj.data_mapDictKeys hd _, hk.push hkey _, ?_, ?_⟩ (Heap.SameBut.update ..))
 ·have := hp.append hkey ((strKind prog w).hash k) v
  obtain ⟨l⟩ := es
  simpa using this
 ·rw [List.map_append, List.nodup_append]
  refine ⟨hn, by simp, ?_⟩
  intro a ha b hb
  simp only [List.map_cons, List.map_nil, zS] at hb
  subst hb
  exact fun e => hnew (e ▸ ha)
theorem kw_merge {d o : Addr} {more : List (Str × Value)} {Q : Unit -> Shared -> Prop} (hdo : d ≠ o) (hoS : (o == sysModules) = false) (hd : s.heap.DictOf (strKind prog w) d []) (ho : s.heap.DictOf (strKind prog w) o more)
  (hQ : ∀ h', h'.DictOf (strKind prog w) d more -> Heap.SameBut d s.heap h' -> Q () { s with heap := h' }) (hsz : more.length <= 900) :
  wpAny (model prog w) A (mergeMapping d (.ref o) true) Q E s := by
 obtain ⟨od, esd, epd, hod, hcd, hdd, hkd, hpd, hnd⟩ := id hd
 obtain ⟨oo, eso, epo, hoo, hco, hdo', hko, hpo, hno⟩ := id ho
 refine wpAny_bind (m := isInstance (.ref o) (.type "dict")) (wpAny_isInstance ho.typeIs isSubtype_dict_dict ?_)
 refine wq (if_pos rfl) ?_
 refine wpAny_bind (wpAny_specialOf ho.typeIs F.slot_dict_iter.lookup (wpAny_bind (wpAny_pure ?_)))
 refine wq (if_neg (by rw [hoS]; exact Bool.false_ne_true)) ?_
 refine wpAny_bind (wpAny_dictEntries hod hdd ?_)
 have h0 : esd = #[] := by
  have := hpd.length
  exact Array.eq_empty_of_size_eq_zero (by simpa using this)
 subst h0
 refine wq (if_pos (by rfl)) ?_
 refine wpAny_bind (wpAny_dictEntries hoo hdo' ?_)
 refine wpAny_bind ?_
 refine wpAny_of_eq (a := PUnit.unit) ?_ ?_
 ·rw [<- Array.forIn_toList]
  refine forIn_yield_id _ fun e he c => ?_
  obtain ⟨k, hkey, _⟩ := hko e (Array.mem_toList_iff.mp he)
  obtain ⟨t, ht⟩ := Value.isStrOf_shape hkey
  rw [ht]
 refine wpAny_bind (wpAny_dictEntries hoo hdo' ?_)
 have hlen : more.length = eso.size := by rw [<- hpo.length]; simp
 refine wpAny_bind (wpAny_dictEpoch hoo hdo' ?_)
 refine wpAny_bind ?_
 refine wpAny_forIn_list _
   (fun rest _ s' => ∃ h' i, s' = { s with heap := h' } /\ rest = List.range' i (eso.size - i) /\ i <= eso.size /\ h'.DictOf (strKind prog w) d (more.take i) /\ h'.get? o = some oo /\ Heap.SameBut d s.heap h')
   _ ?_ ?_ _ _ ⟨s.heap, 0, rfl, by rw [List.range_eq_range']; simp, Nat.zero_le _, by simpa using hd, hoo, Heap.SameBut.refl _ _⟩
 ·rintro x rest b s' ⟨h', i, rfl, hr, hi, hd', hoo', hs'⟩
  have hlt : i < eso.size := by
   rcases Nat.lt_or_ge i eso.size with h | h
   ·exact h
   ·rw [Nat.sub_eq_zero_of_le h] at hr; simp at hr
  obtain ⟨rfl, hrest⟩ : x = i /\ rest = List.range' (i + 1) (eso.size - (i + 1)) := by
   have e : eso.size - i = (eso.size - (i + 1)) + 1 := by omega
   rw [e, List.range'_succ] at hr
   injection hr with h1 h2
   exact ⟨h1, h2⟩
  refine wpAny_bind (wpAny_dictEntries hoo' hdo' ?_)
  rw [Array.getElem?_eq_getElem hlt]
  obtain ⟨kv, hkv⟩ : ∃ kv, more[x]? = some kv := ⟨more[x]'(by rw [hlen]; exact hlt), List.getElem?_eq_getElem _⟩
  obtain ⟨k, v⟩ := kv
  obtain ⟨hkey, hval⟩ := hpo.get? (e := eso[x]) (by simp [hlt]) hkv
  obtain ⟨k', hkey', hhash⟩ := hko eso[x] (Array.getElem_mem hlt)
  obtain rfl : k' = k := (strKind prog w).inj _ _ _ hkey' hkey
  have hnew : k' ∉ (more.take x).map (·.1) := by
   rw [List.map_take]
   exact take_new hno (by simp [hkv])
  refine wpAny_bind (wpAny_holding ?_)
  have hup : more.take (x + 1) = more.take x ++ [(k', eso[x].val)] := by rw [List.take_add_one, hkv, hval]; rfl
  refine wq (if_pos rfl) (kw_put hkey hd' hnew (fun h'' hd'' hs'' => ?_) (by rw [List.length_take]; exact Nat.le_trans (Nat.min_le_right _ _) (Nat.le_trans hsz (by decide))) hhash)
  have hoo'' : h''.get? o = some oo := (hs''.2 o (Ne.symm hdo)).trans hoo'
  refine wpAny_bind (wpAny_dictEpoch hoo'' hdo' ?_)
  rw [if_neg (by simp)]
  exact wpAny_pure ⟨h'', x + 1, rfl, hrest, hlt, by rw [hup]; exact hd'', hoo'', hs'.trans hs''⟩
 ·rintro b s' ⟨h', i, rfl, hr, hi, hd', hoo', hs'⟩
  have hin : i = eso.size := by
   rcases Nat.lt_or_ge i eso.size with h | h
   ·have e : eso.size - i = (eso.size - (i + 1)) + 1 := by omega
    rw [e, List.range'_succ] at hr; exact nomatch hr
   ·exact Nat.le_antisymm hi h
  refine wpAny_pure (hQ h' ?_ hs')
  rw [hin, <- hlen, List.take_length] at hd'; exact hd'
theorem kw_in {f : Value} {d : Addr} {more : List (Str × Value)} {Q : List (Str × Value) -> Shared -> Prop} (hd : s.heap.DictOf (strKind prog w) d more) (hQ : Q more s) : wpAny (model prog w) A (keywordsIn f d) Q E s := by
 obtain ⟨oo, eso, epo, hoo, hco, hdo', hko, hpo, hno⟩ := hd
 refine wpAny_bind (m := dictEntries d) (wpAny_dictEntries hoo hdo' ?_)
 refine wpAny_bind (wq Array.forIn_toList.symm ?_)
 refine wpAny_forIn_list _ (fun rest b s' => s' = s /\ ∃ ms, Pairs (strKind prog w) rest ms /\ b ++ ms = more) _ ?_ ?_ _ _ ⟨rfl, more, hpo, rfl⟩
 ·rintro e rest b s' ⟨rfl, ms, hp, hms⟩
  cases hp with
  | @cons _ kv _ kvs h1 h2 hp =>
   obtain ⟨k, v⟩ := kv
   obtain ⟨t, ht⟩ := Value.isStrOf_shape h1
   rw [ht]
   refine wpAny_pure ⟨rfl, kvs, hp, ?_⟩
   show (b ++ [(k, e.val)]) ++ kvs = more
   rw [h2, List.append_assoc]
   exact hms
 ·rintro b s' ⟨rfl, ms, hp, hms⟩
  cases hp
  rw [List.append_nil] at hms
  subst hms
  exact wpAny_pure hQ
end
section
variable {M : Model} {A : Around} {E : Value -> Shared -> Prop} {s : Shared}
theorem kw_quiet {vs : List Value} {m : Sem Unit} {kA kB kC : Value -> Sem Unit} {Q : Unit -> Shared -> Prop} (h : wpAny M A m Q Never s) : wpAny M A ((holding vs ((m.onRaise kA).tryCatch kB)).onRaise kC) Q E s :=
 wpAny_onRaise (wpAny_holding (wpAny_tryCatch (wpAny_onRaise (wpAny_mono h (fun _ _ x => x) fun _ _ x => x.elim))))
end
section
variable {prog : Program} {w : World} {A : Around} {env : Env} {hZ : Heap} {L : Addr} {m : Str -> Option Value} {news : List (Addr × Obj)} {s : Shared} {E : Value -> Shared -> Prop}
theorem kw_args {f : Value} {x : Sem Value} {Q : Args -> Shared -> Prop} (F : Fr hZ L s.heap m) (N : News hZ L s.heap news) (hbig : hZ.NoLimit)
  (hx : ∀ d h' o, Fr hZ L h' m -> News hZ L h' ((d, o) :: news) -> (∀ q ∈ news, q.1 < d) -> wpAny (model prog w) A x (fun v sA => ∃ a oa kvs led, v = .ref a /\ Fr hZ L sA.heap m /\ News hZ L sA.heap ((d, o) :: led) /\ (a, oa) ∈ led /\ (∀ q ∈ led, q.1 ≠ d) /\ (a == sysModules) = false /\ oa.IsDictOf (strKind prog w) kvs /\ kvs.length <= 900 /\
   ∀ hBZ, Fr hZ L hBZ m -> News hZ L hBZ led -> Q ⟨[], kvs⟩ { sA with heap := hBZ }) E { s with heap := h' }) :
  wpAny (model prog w) A (evalArgs f true [] [(none, x)]) Q E s := by
 refine wpAny_bind (wpAny_bind (m := spliced []) (wpAny_pure (wpAny_pure ?_)))
 refine wpAny_bind (wpAny_pure (wpAny_holding ?_))
 refine wq (if_neg (by simp)) ?_
 refine wpAny_bind (m := mergedKeywords _ _) (wpAny_bind (wpAny_alloc ?_))
 have F1 := F.push emptyDict
 have N1 := News.push F N emptyDict
 refine wpAny_bind (wpAny_holding (wpAny_bind ?_))
 refine wq (List.forIn_cons ..) ?_
 refine wpAny_bind (wpAny_bind (wpAny_pure (wpAny_bind (wpAny_mono (hx s.heap.objs.size _ emptyDict F1 N1 (fun q hq => Heap.lt_size (N q hq).1)) (fun v sA hAZ => ?_) fun _ _ e => e))))
 obtain ⟨a, oa, kvs, led, rfl, F2, N2, hm, hne, hls, hd, hz, hq⟩ := hAZ
 have hdo := Heap.dictOf_iff.mpr ⟨oa, (N2 _ (.tail _ hm)).1, hd⟩
 have hd0 : sA.heap.DictOf (strKind prog w) s.heap.objs.size [] := ⟨emptyDict, #[], 0, (N2 _ (.head _)).1, ⟨rfl, rfl, rfl⟩, rfl, fun e he => absurd he (by simp), .nil, List.nodup_nil⟩
 refine wpAny_bind (kw_quiet (kw_merge (Ne.symm (hne _ hm)) hls hd0 hdo (fun h2 hd2 hs2 => wpAny_pure ?_) hz))
 refine wpAny_pure ?_
 refine wpAny_pure ?_
 refine wpAny_pure ?_
 refine wpAny_bind (wpAny_pure ?_)
 refine wpAny_bind (wpAny_holding (kw_in hd2 ?_))
 have hne2 : ∀ q ∈ led, q.1 ≠ s.heap.objs.size := hne
 have hd0L := (N2 _ (.head _)).2
 refine wpAny_pure (hq h2 ⟨F2.ns.at' fun o1 e => (hs2.2 L fun q => hd0L.1 q.symm).trans e, fun b o1 e => (hs2.2 b fun q => by rw [q, hd0L.2] at e; cases e).trans (F2.keep b o1 e), F2.above⟩ fun q hq' => ⟨(hs2.2 _ (hne q hq')).trans (N2 q (.tail _ hq')).1, (N2 q (.tail _ hq')).2⟩)
end
noncomputable abbrev fdInit : FuncData := mkFn (clsFn 38 0) (oS "Message.__init__") (.ref 350) (.str (oS "mido.messages.messages") 799) (.ref 356) none
theorem bind_loop {β : Type} (kvs : List (Str × Value)) (a : β) (acc : List (Str × Value)) (f : Str × Value -> β × List (Str × Value) -> Sem (ForInStep (β × List (Str × Value)))) (h : ∀ x ∈ kvs, ∀ c, f x c = pure (.yield (c.1, c.2 ++ [(x.1, x.2)]))) :
  forIn kvs (a, acc) f = pure (a, acc ++ kvs) := by
 induction kvs generalizing acc with
 | nil => rw [List.forIn_nil, List.append_nil]
 | cons x r ih =>
  rw [List.forIn_cons, h x (.head _), pure_bind]
  exact (ih (acc ++ [x]) fun y hy => h y (.tail _ hy)).trans (by rw [List.append_assoc]; rfl)
noncomputable def FreeKw (kvs : List (Str × Value)) : Prop := ∀ x ∈ kvs, ([oS "self", oS "kind", oS "skip_checks"].contains x.1) = false
theorem init_bind {P : Params} {S : Setting} {x : Addr} {kvs : List (Str × Value)} (hf : FreeKw kvs) (hz : kvs.length <= 900) :
  ∃ gA, peekA (KK P) S (bindArgs fdInit ⟨[.ref x], kvs⟩) = some (dictOf [] 0, gA) /\
   ∀ D, gA D = (forIn kvs PUnit.unit (fun x _ => (nsSet D x.1 x.2 >>= fun _ => pure (ForInStep.yield PUnit.unit))) >>= fun _ => pure ([(oS "self", .ref x), (oS "kind", .none), (oS "skip_checks", .bool false)] ++ [(oS "args", Value.ref D)])) := by
 unfold bindArgs
 dsimp only
 rw [bind_loop kvs _ _ _ ?_]
 ·have hl : ¬ (kvs.length > sizeLine + 1) := by rw [sizeLine_eq]; omega
  simp only [pure_bind, List.nil_append, if_neg hl]
  exact ⟨_, by with_unfolding_all rfl, fun D => by with_unfolding_all rfl⟩
 ·intro y hy c
  have := hf y hy
  rw [if_neg, if_pos]
  ·rfl
  ·show ¬ (([oS "self", oS "kind", oS "skip_checks"].contains y.1 || ([] : List Str).contains y.1) = true)
   rw [this]; simp
structure AtX (w : World) (A : Around) (base : Heap) (env : Env) (outer : List Env) (hZ : Heap) (L : Addr) (D U : Nat) : Prop where
 at_ : At w A env hZ L D U
 frx : A.frames = some (env :: outer)
 bst : base.StaysIn hZ
 bfr : hZ.FunFrames base outer
 bK : (KK w.params).In base
 bT : ∃ p loose mean mg mb, Top p loose mean mg mb base
 dpx : 1 <= A.depth
 unx : 3 <= A.units
theorem AtX.less {w : World} {A : Around} {base hZ : Heap} {env : Env} {outer : List Env} {L : Addr} {D U D' U' : Nat} (a : AtX w A base env outer hZ L D U) (hd : D' <= D) (hu : U' <= U) : AtX w A base env outer hZ L D' U' := { a with at_ := a.at_.less hd hu }
theorem AtX.deep {w : World} {A : Around} {base hZ : Heap} {env : Env} {outer : List Env} {L : Addr} {D U : Nat} (a : AtX w A base env outer hZ L D U) : ∃ A₀, A = Around.deeper A₀ env /\ Below A₀ base outer hZ := by
 refine ⟨{ A with depth := A.depth - 1, frames := some outer, units := A.units - 3 }, ?_, ⟨rfl, a.bst, a.bfr⟩⟩
 have h1 := a.dpx
 have h2 := a.unx
 have h3 := a.frx
 obtain ⟨ha, d, fr, gs, u⟩ := A
 dsimp only at h1 h2 h3
 subst h3
 show (⟨ha, d, some (env :: outer), gs, u⟩ : Around) = ⟨ha, d - 1 + 1, some (env :: outer), gs, u - 3 + 3⟩
 rw [Nat.sub_add_cancel h1, Nat.sub_add_cancel h2]
noncomputable def RaisedX (base : Heap) (env : Env) (outer : List Env) (hZ : Heap) (L : Addr) (m : Str -> Option Value) (news : List (Addr × Obj)) (X : String) (e : Addr) (h' : Heap) : Prop :=
 ∃ g t vs, Fr hZ L g m /\ g.UpToSlots h' /\ RaisedK base (env :: outer) e (.type X) t vs news h'
noncomputable def RaiseOk (base : Heap) (l : List Env) (g : Heap) (news : List (Addr × Obj)) (X : String) (s : Shared) (R' : Value -> Shared -> Prop) : Prop :=
 ∀ a h' tk t vs, RaisedK base l a (.type X) t vs news h' -> g.UpToSlots h' -> R' (.ref a) (St s h' tk)
noncomputable def EBody (M : Model) (A : Around) (env : Env) (R' : Value -> Shared -> Prop) (e : Value) (s' : Shared) : Prop := wpAny M A (leaving env e) (fun _ s'' => R' e s'') (fun e' s'' => R' e' s'') s'
theorem passes_body {M : Model} {A : Around} {env : Env} {R' : Value -> Shared -> Prop} : PassesOwn M A env (EBody M A env R') := PassesOwn.leaving
theorem raisedK_less {base h : Heap} {l : List Env} {e t : Addr} {cls : Value} {vs : List Value} {news news' : List (Addr × Obj)} (R : RaisedK base l e cls t vs news h) (hs : ∀ q ∈ news', q ∈ news) : RaisedK base l e cls t vs news' h := by
 obtain ⟨⟨B, h1, h2, h3, h4⟩, h5⟩ := R
 exact ⟨⟨B, h1, fun q hq => h2 q (hs q hq), h3, h4⟩, h5⟩
section
variable {M : Model} {w : World} {A : Around} {base hZ h : Heap} {outer : List Env} {L f : Addr} {cd : Value} {name : Str} {scope : Scope} {m : Str -> Option Value} {news newsZ : List (Addr × Obj)} {X : String} {D U : Nat} {s : Shared} {R' : Value -> Shared -> Prop} {e : Addr}
theorem leave_on (a : AtX w A base (envOf name scope L f cd) outer hZ L D U) (ok : RaiseOk base outer hZ newsZ X s R') (hsub : ∀ q ∈ newsZ, q ∈ news) {h' : Heap} {tk : Nat} (hR : RaisedX base (envOf name scope L f cd) outer hZ L m news X e h') : EBody M A (envOf name scope L f cd) R' (.ref e) (St s h' tk) := by
 obtain ⟨A₀, rfl, B⟩ := a.deep
 obtain ⟨g, t, vs, F, hsm, hK⟩ := hR
 exact leave_onK (s' := (St s h' tk)) B F hK hsm fun h2 hK2 hu => ok e h2 tk t vs (raisedK_less hK2 hsub) hu
theorem leave_made (a : AtX w A base (envOf name scope L f cd) outer hZ L D U) (ok : RaiseOk base outer hZ newsZ X s R') (hsub : ∀ q ∈ newsZ, q ∈ news) {h' : Heap} {tk : Nat} {vs : List Value} (F : Fr hZ L h m) (N : News hZ L h news) (hx : Heap.MadeExcOf h h' e (.type X) vs) (hk : autoParam (scope.kind = .function) tA0) :
  EBody M A (envOf name scope L f cd) R' (.ref e) (St s h' tk) := by
 obtain ⟨A₀, rfl, B⟩ := a.deep
 exact leave_raiseK (s' := (St s h' tk)) B hx F N (fun h2 t hK2 hu => ok e h2 tk t vs (raisedK_less hK2 hsub) hu) hk
end
noncomputable def truncAt (h : Heap) (n : Nat) : Heap := { h with objs := h.objs.extract 0 n }
theorem trunc_lt {h : Heap} {n b : Nat} (hb : b < n) : (truncAt h n).get? b = h.get? b := by
 unfold truncAt Heap.get?
 dsimp only
 have : (h.objs.extract 0 n)[b]? = h.objs[b]? := by
  rw [Array.getElem?_extract]
  by_cases hs : b < h.objs.size
  ·rw [if_pos (by omega), Nat.zero_add]
  ·rw [if_neg (by omega), Array.getElem?_eq_none (by omega)]
 rw [this]
theorem trunc_ge {h : Heap} {n b : Nat} (hb : n <= b) : (truncAt h n).get? b = none := by
 cases e : (truncAt h n).get? b with
 | none => rfl
 | some o =>
  have h1 : b < (h.objs.extract 0 n).size := Heap.lt_size e
  rw [Array.size_extract] at h1
  omega
noncomputable def behind (h : Heap) (n : Nat) (l : List Addr) : Heap := hideAll (truncAt h n) l
theorem behind_get {h : Heap} {n b : Nat} {l : List Addr} (hb : b < n) (hl : b ∉ l) {o : Obj} (e : h.get? b = some o) : (behind h n l).get? b = some o := hideAll_get _ ((trunc_lt hb).trans e) hl
theorem of_behind {h : Heap} {n b : Nat} {l : List Addr} {o : Obj} (e : (behind h n l).get? b = some o) : h.get? b = some o /\ b < n := by
 have h1 := of_hideAll l e
 have hb : b < n := by
  rcases Nat.lt_or_ge b n with q | q
  ·exact q
  ·rw [trunc_ge q] at h1; cases h1
 exact ⟨(trunc_lt hb).symm.trans h1, hb⟩
theorem behind_size (h : Heap) (n : Nat) (l : List Addr) : (behind h n l).objs.size <= n := by
 unfold behind truncAt
 rw [hideAll_size]
 simp only [Array.size_extract]
 omega
theorem frames_behind {base h hZ B : Heap} {n : Nat} {l : List Addr} (hn : hZ.objs.size <= n) {fs : List Env} (a : hZ.FunFrames base fs) (b : h.FunFrames B fs) (hl : ∀ b, B.get? b = none -> b ∉ l) : (behind h n l).FunFrames base fs := by
 induction fs with
 | nil => trivial
 | cons env fs ih =>
  obtain ⟨_, ⟨L, o, hf, hb, ho, _⟩, hr⟩ := a
  obtain ⟨hk, ⟨L', o', hf', hb', ho', hd'⟩, hr'⟩ := b
  obtain rfl : L = L' := Option.some.inj (hf.symm.trans hf')
  exact ⟨hk, ⟨L, o', hf, hb, behind_get (Nat.lt_of_lt_of_le (Heap.lt_size ho) hn) (hl L hb') ho', hd'⟩, ih hr hr'⟩
section
variable {prog : Program} {w : World} {A : Around} {base hZ : Heap} {outer : List Env} {L f : Addr} {cd : Value} {name : Str} {scope : Scope} {m : Str -> Option Value} {news : List (Addr × Obj)} {X T' : String} {D U : Nat} {s' : Shared} {e : Addr} {Q : Flow -> Shared -> Prop} {E : Value -> Shared -> Prop}
 {bZ : Stmt} {suite : List Stmt} {pos np : Pos} {rest : List ExceptHandler} {x : Str}
theorem caught_X (a : AtX w A base (envOf name scope L f cd) outer hZ L D U) (hR : RaisedX base (envOf name scope L f cd) outer hZ L m news X e s'.heap) (hN : ∀ q ∈ news, hZ.get? q.1 = none) (hx : nsIn (KK w.params) mainGlobals x = some none) (hv : bootBuiltins x = some (.type T')) (hne : x ≠ oS "__name__")
  (hexc : isSubtype (.type T') (.type "BaseException") = pure true) (hnt : isSubtype (.type ((Manifest.find? T').elim "type" fun y => y.metatype)) (.type "tuple") = pure false) (hsub : isSubtype (.type X) (.type T') = pure true)
  (k : ∀ h' g' tk E', AtX w A base (envOf name scope L f cd) outer g' L D U -> Fr g' L h' m -> News g' L h' news -> hZ.UpToSlots g' -> wpAny (model prog w) (A.mark (some (.ref e))) (execs (bZ :: suite) (envOf name scope L f cd)) Q E' (St s' h' tk))
  (hk : autoParam (scope.kind = .function) tA0) (hxk : autoParam ((envOf name scope L f cd).kindOf x = some .globalImplicit) tA0) (hd : autoParam ((x == ("__debug__" : Str)) = false) tA1) :
  wpAny (model prog w) A (noteFrame (.ref e) (envOf name scope L f cd))
   (fun _ sB => wpAny (model prog w) A (setFlight (.ref e) none) (fun _ sC => wpAny (model prog w) A (handleBy (.ref e) (envOf name scope L f cd) (.ExceptHandler (some (.Name x np)) none (bZ :: suite) pos :: rest)) Q E sC) E sB) E s' := by
 obtain ⟨g, t, vs, F, hsm, ⟨⟨B, hB, hl, hfl, hnew⟩, htup⟩⟩ := hR
 have hLn : B.get? L = none := by
  obtain ⟨_, ⟨L', _, hf, hn', _⟩, _⟩ := hfl.2.2.1
  obtain rfl : L = L' := Option.some.inj hf
  exact hn'
 have hsz : base.objs.size <= hZ.objs.size ∨ ∀ b o, base.get? b = some o -> b < hZ.objs.size := .inr fun b o e => Heap.lt_size (a.bst b o e)
 have hbl : ∀ b o, base.get? b = some o -> b < hZ.objs.size := fun b o e => Heap.lt_size (a.bst b o e)
 have hnl : ∀ b, B.get? b = none -> b ∉ news.map (·.1) := fun b hb q => by
  obtain ⟨p, hp, rfl⟩ := List.mem_map.mp q
  rw [(hl p hp).1] at hb; cases hb
 -- the ground at a heap that B stays in
 have ground : ∀ h5, B.StaysIn h5 -> h5.FunFrames B (envOf name scope L f cd :: outer) -> s'.heap.UpToSlots h5 -> AtX w A base (envOf name scope L f cd) outer (behind h5 hZ.objs.size (news.map (·.1))) L D U /\ Fr (behind h5 hZ.objs.size (news.map (·.1))) L h5 m /\ News (behind h5 hZ.objs.size (news.map (·.1))) L h5 news /\ hZ.UpToSlots (behind h5 hZ.objs.size (news.map (·.1))) := by
  intro h5 hB5 hF5 hU5
  have hb5 : base.StaysIn (behind h5 hZ.objs.size (news.map (·.1))) := fun b o e => behind_get (hbl b o e) (fun q => by
   obtain ⟨p, hp, rfl⟩ := List.mem_map.mp q
   rw [(hl p hp).2] at e; cases e) (hB5 b o (hB b o e))
  have hfr5 : (behind h5 hZ.objs.size (news.map (·.1))).FunFrames base outer := frames_behind (Nat.le_refl _) a.bfr hF5.2.2 hnl
  obtain ⟨p, loose, mean, mg, mb, T⟩ := a.bT
  refine ⟨⟨⟨⟨p, loose, mean, mg, mb, { A with frames := some outer }, base, outer, ⟨rfl, hb5, hfr5⟩, T.keeps hb5, a.frx⟩, a.at_.hh, a.at_.fr, a.at_.lo, a.at_.kd, a.bK.keeps hb5, a.at_.dp, a.at_.un, ⟨base, outer, a.frx, hb5, hfr5, a.bK, a.bT, a.dpx, a.unx⟩⟩, a.frx, hb5, hfr5, a.bK, a.bT, a.dpx, a.unx⟩,
   ⟨(hsm.trans hU5).ns F.ns, fun b o e => (of_behind e).1, Nat.le_trans (behind_size _ _ _) F.above⟩, fun q hq => ⟨hB5 _ _ (hl q hq).1, fun z => ?_, hideAll_none _ (List.mem_map_of_mem hq)⟩, fun b o e hnf => ?_⟩
  ·have := (hl q hq).1
   rw [z, hLn] at this; cases this
  ·obtain ⟨sl, hs⟩ := (hsm.trans hU5) b o (F.keep b o e) hnf
   exact ⟨sl, behind_get (Heap.lt_size e) (fun q => by
    obtain ⟨p, hp, rfl⟩ := List.mem_map.mp q
    rw [hN p hp] at e; cases e) hs⟩
 refine wpAny_looks_onW a.frx rfl hfl fun hDZ hheldD hsmD => ?_
 refine wpAny_landsW hheldD fun hEZ hheld hsmE' => ?_
 have hsmE := hsmD.trans hsmE'
 obtain ⟨ax5, F5, _, _⟩ := ground hEZ hheld.1 hheld.2.2.1 hsmE
 obtain ⟨ob, hob, hobc⟩ := hheld.there
 refine wpAny_handleBy_builtin (X := X) (T := T') (b := true) hexc hnt hsub (Ev.built (w := w) (M := model prog w) (A := A.mark (some (.ref e))) (ax5.at_.gl.keeps F5.keep) hx hv hne rfl rfl hk hxk hd { s' with heap := hEZ } _ _ rfl fun v tk hv => ⟨hv, ⟨ob, hob, hobc⟩, ?_⟩)
 simp only [if_true]
 refine lands_againW (s := (St s' hEZ tk)) hheld fun hFZ hflF hsmF => ?_
 obtain ⟨ax6, F6, N6, U6⟩ := ground hFZ hflF.1 hflF.2.2.1 (hsmE.trans hsmF)
 exact k hFZ _ tk _ ax6 F6 N6 U6
end
noncomputable def RetL (g : Heap) (L : Addr) (s : Shared) (Post : Value -> List (Addr × Obj) -> Prop) (fl : Flow) (s' : Shared) : Prop :=
 ∃ led h' tk' m', s' = (St s h' tk') /\ Fr g L h' m' /\ News g L h' led /\ Post (match fl with | .ret v => v | _ => .none) led
noncomputable def GivesL (w : World) (f : Addr) (D U : Nat) (vs : List Value) (kw : List (Str × Value)) (news : List (Addr × Obj)) (Post : Value -> List (Addr × Obj) -> Prop) : Prop :=
 ∀ (A : Around) (env : Env) (hZ : Heap) (L : Addr) (m : Str -> Option Value) (s : Shared) (R : Result -> Shared -> Prop), At w A env hZ L D U -> Fr hZ L s.heap m -> News hZ L s.heap news ->
  (∀ r led h' tk', Post r led -> Fr hZ L h' m -> News hZ L h' led -> R (.ok (.ret r)) (St s h' tk')) -> codeAny (model rW.prog w) A (.call (.ref f) ⟨vs, kw⟩) R s
theorem enterL {w : World} {f : Addr} {vs : List Value} {kw : List (Str × Value)} {news : List (Addr × Obj)} {Post : Value -> List (Addr × Obj) -> Prop} (D U : Nat)
  {name qual : Str} {params : Arguments} {body : List Stmt} {scope : Scope} {dV kV doc pm cdv ct oc : Value} {an od : Option Addr} {osl : Array (Option Value)} (binds : List (Str × Value))
  (hb : ∀ (A : Around) (g : Heap) (L : Addr) (s : Shared) (m : Str -> Option Value), At w A (envOf qual scope L f cdv) g L D U -> Fr g L s.heap m -> (∀ p ∈ binds, m p.1 = some p.2) -> News g L s.heap news ->
   wpAny (model rW.prog w) A (execs body (envOf qual scope L f cdv)) (RetL g L s Post) Never s)
  (ho : autoParam ((KK w.params).lookup f = some ⟨oc, od, .func (fnOf name qual params body scope dV kV doc pm an cdv ct), osl⟩) tA3) (hcd : autoParam (codeIn (KK w.params) cdv qual = true) tA3)
  (hbind : autoParam (∀ S, peek (KK w.params) S (bindArgs (fnOf name qual params body scope dV kV doc pm an cdv ct) ⟨vs, kw⟩) = some binds) tA2) (hloc : autoParam ((binds.all fun x => decide (scope.names.lookup x.1 = some .local)) = true) tA0)
  (hn : autoParam (∃ ns, binds.map (·.1) = ns /\ ns.Nodup) tA6) (hco : autoParam (scope.isCoroutine = false) tA0) (hgen : autoParam (scope.isGenerator = false) tA0) (hk : autoParam (scope.kind = .function) tA0) (hcell : autoParam (∀ x ∈ scope.names, x.2 ≠ .cell) tA1) :
  GivesL w f (D + 1) (U + 3) vs kw news Post := by
 obtain ⟨_, rfl, hn⟩ := hn
 intro A env hZ L m s R a F N hret
 obtain ⟨p, loose, mean, mg, mb, A₀, base, outer, B, T, hA, bxx⟩ := a.exb
 refine code_def B F a.K N T hA a.fr a.kd ho hcd (by have := a.dp; omega) (kp_binds (a.K.keeps F.keep) hbind) (locs hloc) (fun g L' hAZ FG F' N' B' X' T' => ?_) hco hgen hk hcell
 refine wpAny_mono (hb (A.deeper (envOf qual scope L' f cdv)) g L' _ _ ⟨⟨p, loose, mean, mg, mb, A, base, env :: outer, B', T', by show (A.frames.map _) = _; rw [hA]; rfl⟩, a.hh, rfl, rfl, hk, X', by show A.depth + 1 + D < _; have := a.dp; omega, by show A.units + 3 + U < _; have := a.un; omega, bxx _ _ B'⟩ F' (fun q hq => ?_) N') (fun fl s' hR => ?_) (fun _ _ h => h.elim)
 ·exact lookup_mem (by rw [List.map_reverse]; exact List.pairwise_reverse.mpr (List.Pairwise.imp (fun h e => h e.symm) hn)) (List.mem_reverse.mpr hq)
 ·obtain ⟨led, h', tk', m', rfl, F2, N2, hp⟩ := hR
  exact ⟨L', m', _, F2, N2, fun kF kN => hret _ led h' tk' hp kF kN⟩
noncomputable def GivesX (w : World) (f : Addr) (D U : Nat) (vs : List Value) (kw : List (Str × Value)) (news : List (Addr × Obj)) (X : String) : Prop :=
 ∀ (A : Around) (base : Heap) (env : Env) (outer : List Env) (hZ : Heap) (L : Addr) (m : Str -> Option Value) (s : Shared) (R : Result -> Shared -> Prop), AtX w A base env outer hZ L D U -> Fr hZ L s.heap m -> News hZ L s.heap news ->
  (∀ a h' tk, RaisedX base env outer hZ L m news X a h' -> R (.error (.ref a)) (St s h' tk)) -> codeAny (model rW.prog w) A (.call (.ref f) ⟨vs, kw⟩) R s
theorem enterX {w : World} {f : Addr} {vs : List Value} {kw : List (Str × Value)} {news : List (Addr × Obj)} {X : String} (D U : Nat)
  {name qual : Str} {params : Arguments} {body : List Stmt} {scope : Scope} {dV kV doc pm cdv ct oc : Value} {an od : Option Addr} {osl : Array (Option Value)} (binds : List (Str × Value))
  (hb : ∀ (A : Around) (base : Heap) (outer : List Env) (g : Heap) (L : Addr) (s : Shared) (m : Str -> Option Value) (R' : Value -> Shared -> Prop), AtX w A base (envOf qual scope L f cdv) outer g L D U -> Fr g L s.heap m -> (∀ p ∈ binds, m p.1 = some p.2) -> News g L s.heap news ->
   RaiseOk base outer g news X s R' -> wpAny (model rW.prog w) A (execs body (envOf qual scope L f cdv)) (fun _ _ => False) (EBody (model rW.prog w) A (envOf qual scope L f cdv) R') s)
  (ho : autoParam ((KK w.params).lookup f = some ⟨oc, od, .func (fnOf name qual params body scope dV kV doc pm an cdv ct), osl⟩) tA3) (hcd : autoParam (codeIn (KK w.params) cdv qual = true) tA3)
  (hbind : autoParam (∀ S, peek (KK w.params) S (bindArgs (fnOf name qual params body scope dV kV doc pm an cdv ct) ⟨vs, kw⟩) = some binds) tA2) (hloc : autoParam ((binds.all fun x => decide (scope.names.lookup x.1 = some .local)) = true) tA0)
  (hn : autoParam (∃ ns, binds.map (·.1) = ns /\ ns.Nodup) tA6) (hco : autoParam (scope.isCoroutine = false) tA0) (hgen : autoParam (scope.isGenerator = false) tA0) (hk : autoParam (scope.kind = .function) tA0) (hcell : autoParam (∀ x ∈ scope.names, x.2 ≠ .cell) tA1) :
  GivesX w f (D + 1) (U + 3) vs kw news X := by
 obtain ⟨_, rfl, hn⟩ := hn
 intro A base env outer hZ L m s R a F N hraise
 have aa := a.at_
 obtain ⟨p, loose, mean, mg, mb, AA, baseA, outerA, BA, T, hAA⟩ := aa.ex
 refine code_def (A₀ := { A with frames := some outer }) (base := base) (outer := outer) ⟨rfl, a.bst, a.bfr⟩ F aa.K N T a.frx aa.fr aa.kd ho hcd (by have := aa.dp; omega) (kp_binds (aa.K.keeps F.keep) hbind) (locs hloc) (fun g L' hAZ FG F' N' B' X' T' => ?_) hco hgen hk hcell
 have ax : AtX w (A.deeper (envOf qual scope L' f cdv)) base (envOf qual scope L' f cdv) (env :: outer) g L' D U :=
  ⟨⟨⟨p, loose, mean, mg, mb, A, base, env :: outer, B', T', by show (A.frames.map _) = _; rw [a.frx]; rfl⟩, aa.hh, rfl, rfl, hk, X', by show A.depth + 1 + D < _; have := aa.dp; omega, by show A.units + 3 + U < _; have := aa.un; omega, ⟨base, env :: outer, by show (A.frames.map _) = _; rw [a.frx]; rfl, B'.stays, B'.frames, a.bK, a.bT, Nat.le_add_left _ _, Nat.le_add_left _ _⟩⟩,
   by show (A.frames.map _) = _; rw [a.frx]; rfl, B'.stays, B'.frames, a.bK, a.bT, by show 1 <= A.depth + 1; omega, by show 3 <= A.units + 3; omega⟩
 refine wpAny_mono (hb (A.deeper (envOf qual scope L' f cdv)) base (env :: outer) g L' _ _ (fun e s'' => R (.error e) s'') ax F' (fun q hq => ?_) N' (fun b h' tk t vs hK hu => hraise b h' tk ⟨g, t, vs, FG, hu, hK⟩)) (fun _ _ h => h.elim) (fun _ _ h => h)
 exact lookup_mem (by rw [List.map_reverse]; exact List.pairwise_reverse.mpr (List.Pairwise.imp (fun h e => h e.symm) hn)) (List.mem_reverse.mpr hq)
noncomputable def Takes (base : Heap) (env : Env) (outer : List Env) (hZ : Heap) (L : Addr) (newsZ : List (Addr × Obj)) (X : String) (s : Shared) (E : Value -> Shared -> Prop) : Prop :=
 ∀ a h' tk m' news', (∀ q ∈ newsZ, q ∈ news') -> RaisedX base env outer hZ L m' news' X a h' -> E (.ref a) (St s h' tk)
noncomputable def EvX (M : Model) (A : Around) (base : Heap) (env : Env) (outer : List Env) (hZ : Heap) (L : Addr) (m : Str -> Option Value) (news : List (Addr × Obj)) (e : Expr) (X : String) : Prop :=
 ∀ (s : Shared) (Q E : Value -> Shared -> Prop), Fr hZ L s.heap m -> News hZ L s.heap news -> Takes base env outer hZ L news X s E -> wpAny M A (eval e env) Q E s
section
variable {w : World} {A : Around} {env : Env} {base hZ : Heap} {outer : List Env} {L : Addr} {m : Str -> Option Value} {news newsZ : List (Addr × Obj)} {e eAZ : Expr} {es : List Expr} {X x : String} {D U : Nat} {RL : List Value -> Prop} {pos pA : Pos} {s : Shared} {E : Value -> Shared -> Prop} {Q : Flow -> Shared -> Prop} {rest : List Stmt} {y : Str}
theorem takes_body {f : Addr} {cd : Value} {name : Str} {scope : Scope} {M : Model} {R' : Value -> Shared -> Prop} (a : AtX w A base (envOf name scope L f cd) outer hZ L D U) (ok : RaiseOk base outer hZ newsZ X s R') (hsub : ∀ q ∈ newsZ, q ∈ news) : Takes base (envOf name scope L f cd) outer hZ L news X s (EBody M A (envOf name scope L f cd) R') :=
 fun b h' tk m' news' h1 hR => leave_on a ok (fun q hq => h1 q (hsub q hq)) hR
theorem Takes.more {news' : List (Addr × Obj)} (h : Takes base env outer hZ L news X s E) (hs : ∀ q ∈ news, q ∈ news') : Takes base env outer hZ L news' X s E := fun b h' tk m' n h1 hR => h b h' tk m' n (fun q hq => h1 q (hs q hq)) hR
theorem EvX.fn {f : Addr} (a : AtX w A base env outer hZ L D U) (hf : ∀ h, Fr hZ L h m -> News hZ L h news -> Ev (model rW.prog w) A env h eAZ (· = .ref f)) (hk : keepIn (KK w.params) (.ref f) = true)
  (he : ∀ h, Fr hZ L h m -> News hZ L h news -> EvL (model rW.prog w) A env h (e :: es) RL) (G : ∀ vs, RL vs -> GivesX w f D U vs [] news X)
  (hs : autoParam (starEach (e :: es) env = (false, eval e env) :: starEach es env) tA0) (hn : autoParam (((backTo pos (starEach es env)).any fun x => x.1) = false) tA0)
  (hc : autoParam (eval (.Call eAZ (e :: es) [] pos) env = (do let f <- eval eAZ env; callWith pos f [] (backTo pos (starEach (e :: es) env)) (backToKw pos (keywordEach [] env)))) tA0) :
  EvX (model rW.prog w) A base env outer hZ L m news (.Call eAZ (e :: es) [] pos) X := fun s Q E F N hE => by
 refine Call_ (hf _ F N s _ E rfl fun v tk hv => ?_) hc
 subst hv
 refine callWith_K a.at_.K hk (he _ F N _ _ E pos rfl fun vs tk' hvs => ⟨a.at_.K.keeps F.keep, ?_⟩) hs hn
 exact wpAny_call (G vs hvs A base env outer hZ L m (Tk s tk') _ a F N fun b h' tk hR => hE b h' tk m news (fun _ h => h) hR)
theorem st_retX {M : Model} (F : Fr hZ L s.heap m) (N : News hZ L s.heap news) (he : EvX M A base env outer hZ L m news e X) (hE : Takes base env outer hZ L news X s E) : wpAny M A (execs (.Return (some e) pos :: rest) env) Q E s := wpAny_execs_cons (wpAny_Return_some (he s _ E F N hE))
theorem st_exprX {prog : Program} (F : Fr hZ L s.heap m) (N : News hZ L s.heap news) (he : EvX (model prog w) A base env outer hZ L m news e X) (hE : Takes base env outer hZ L news X s E) (hi : autoParam (interactive env = false) tA0) (hsw : autoParam (swapsWith e none pos.line env = pure false) tA0) : wpAny (model prog w) A (execs (.Expr e pos :: rest) env) Q E s :=
 wpAny_execs_cons (wpAny_Expr_any (he s _ E F N hE) hi hsw)
end
theorem At.x {w : World} {A : Around} {env : Env} {hZ : Heap} {L : Addr} {D U : Nat} (a : At w A env hZ L D U) : ∃ base outer, AtX w A base env outer hZ L D U := by
 obtain ⟨base, outer, h1, h2, h3, h4, h5, h6, h7⟩ := a.bx
 exact ⟨base, outer, a, h1, h2, h3, h4, h5, h6, h7⟩
noncomputable def GivesB (w : World) (f : Addr) (D U : Nat) (vs : List Value) (kw : List (Str × Value)) (news : List (Addr × Obj)) (Post : Value -> List (Addr × Obj) -> Prop) (P : Prop) (X : String) : Prop :=
 ∀ (A : Around) (base : Heap) (env : Env) (outer : List Env) (hZ : Heap) (L : Addr) (m : Str -> Option Value) (s : Shared) (R : Result -> Shared -> Prop), AtX w A base env outer hZ L D U -> Fr hZ L s.heap m -> News hZ L s.heap news ->
  (∀ r new h' tk', Post r new -> (Ap news new) -> Fr hZ L h' m -> News hZ L h' (new ++ news) -> R (.ok (.ret r)) (St s h' tk')) ->
  (P -> ∀ a h' tk, RaisedX base env outer hZ L m news X a h' -> R (.error (.ref a)) (St s h' tk)) -> codeAny (model rW.prog w) A (.call (.ref f) ⟨vs, kw⟩) R s
theorem entrB {w : World} {f : Addr} {vs : List Value} {kw : List (Str × Value)} {news : List (Addr × Obj)} {Post : Value -> List (Addr × Obj) -> Prop} {P : Prop} {X : String} (D U : Nat)
  {name qual : Str} {params : Arguments} {body : List Stmt} {scope : Scope} {dV kV doc pm cdv ct oc : Value} {an od : Option Addr} {osl : Array (Option Value)} (binds : List (Str × Value))
  (hb : ∀ (A : Around) (base : Heap) (outer : List Env) (g : Heap) (L : Addr) (s : Shared) (m : Str -> Option Value) (R' : Value -> Shared -> Prop), AtX w A base (envOf qual scope L f cdv) outer g L D U -> Fr g L s.heap m -> (∀ p ∈ binds, m p.1 = some p.2) -> News g L s.heap news ->
   (P -> RaiseOk base outer g news X s R') -> wpAny (model rW.prog w) A (execs body (envOf qual scope L f cdv)) (Ret g L news s Post) (EBody (model rW.prog w) A (envOf qual scope L f cdv) R') s)
  (ho : autoParam ((KK w.params).lookup f = some ⟨oc, od, .func (fnOf name qual params body scope dV kV doc pm an cdv ct), osl⟩) tA3) (hcd : autoParam (codeIn (KK w.params) cdv qual = true) tA3)
  (hbind : autoParam (∀ S, peek (KK w.params) S (bindArgs (fnOf name qual params body scope dV kV doc pm an cdv ct) ⟨vs, kw⟩) = some binds) tA2) (hloc : autoParam ((binds.all fun x => decide (scope.names.lookup x.1 = some .local)) = true) tA0)
  (hn : autoParam (∃ ns, binds.map (·.1) = ns /\ ns.Nodup) tA6) (hco : autoParam (scope.isCoroutine = false) tA0) (hgen : autoParam (scope.isGenerator = false) tA0) (hk : autoParam (scope.kind = .function) tA0) (hcell : autoParam (∀ x ∈ scope.names, x.2 ≠ .cell) tA1) :
  GivesB w f (D + 1) (U + 3) vs kw news Post P X := by
 obtain ⟨_, rfl, hn⟩ := hn
 intro A base env outer hZ L m s R a F N hret hraise
 have aa := a.at_
 obtain ⟨p, loose, mean, mg, mb, AA, baseA, outerA, BA, T, hAA⟩ := aa.ex
 refine code_def (A₀ := { A with frames := some outer }) (base := base) (outer := outer) ⟨rfl, a.bst, a.bfr⟩ F aa.K N T a.frx aa.fr aa.kd ho hcd (by have := aa.dp; omega) (kp_binds (aa.K.keeps F.keep) hbind) (locs hloc) (fun g L' hAZ FG F' N' B' X' T' => ?_) hco hgen hk hcell
 have ax : AtX w (A.deeper (envOf qual scope L' f cdv)) base (envOf qual scope L' f cdv) (env :: outer) g L' D U :=
  ⟨⟨⟨p, loose, mean, mg, mb, A, base, env :: outer, B', T', by show (A.frames.map _) = _; rw [a.frx]; rfl⟩, aa.hh, rfl, rfl, hk, X', by show A.depth + 1 + D < _; have := aa.dp; omega, by show A.units + 3 + U < _; have := aa.un; omega, ⟨base, env :: outer, by show (A.frames.map _) = _; rw [a.frx]; rfl, B'.stays, B'.frames, a.bK, a.bT, Nat.le_add_left _ _, Nat.le_add_left _ _⟩⟩,
   by show (A.frames.map _) = _; rw [a.frx]; rfl, B'.stays, B'.frames, a.bK, a.bT, by show 1 <= A.depth + 1; omega, by show 3 <= A.units + 3; omega⟩
 refine wpAny_mono (hb (A.deeper (envOf qual scope L' f cdv)) base (env :: outer) g L' _ _ (fun e s'' => R (.error e) s'') ax F' (fun q hq => ?_) N' (fun hp b h' tk t vs hK hu => hraise hp b h' tk ⟨g, t, vs, FG, hu, hK⟩)) (fun fl s' h => ?_) (fun _ _ h => h)
 ·exact lookup_mem (by rw [List.map_reverse]; exact List.pairwise_reverse.mpr (List.Pairwise.imp (fun h e => h e.symm) hn)) (List.mem_reverse.mpr hq)
 ·obtain ⟨new, h', tk', m', rfl, F2, N2, hl, hp⟩ := h
  exact ⟨L', m', _, F2, N2, fun kF kN => hret _ new h' tk' hp hl kF kN⟩
theorem GivesB.ok {w : World} {f : Addr} {D U : Nat} {vs : List Value} {kw : List (Str × Value)} {news : List (Addr × Obj)} {Post Post' : Value -> List (Addr × Obj) -> Prop} {P : Prop} {X : String} (h : GivesB w f D U vs kw news Post P X) (hp : ¬ P) (hr : ∀ r new, Post r new -> Post' r new) : Gives w f D U vs kw news Post' :=
 fun A env hZ L m s Q E a F N hret => by
  obtain ⟨base, outer, ax⟩ := a.x
  exact wpAny_call (h A base env outer hZ L m s _ ax F N (fun r new h' tk' hpost => hret r new h' tk' (hr r new hpost)) (fun p => absurd p hp))
theorem GivesB.bad {w : World} {f : Addr} {D U : Nat} {vs : List Value} {kw : List (Str × Value)} {news : List (Addr × Obj)} {Post : Value -> List (Addr × Obj) -> Prop} {P : Prop} {X : String} (h : GivesB w f D U vs kw news Post P X) (hp : P) (hr : ∀ r new, ¬ Post r new) : GivesX w f D U vs kw news X :=
 fun A base env outer hZ L m s R a F N hraise => h A base env outer hZ L m s R a F N (fun r new h' tk' hpost => absurd hpost (hr r new)) (fun _ => hraise)
noncomputable def Called (Γ : Ctx) : Prop := Γ.below.any (fun c => c.1.isCaller) = true
noncomputable def wpC {α : Type} (M : Model) (A : Around) (t : Sem α) (Q : α -> Shared -> Prop) (E : Value -> Shared -> Prop) (s : Shared) : Prop :=
 ∀ Γ p, Γ.In A -> Called Γ -> Sem.wp M Γ t (fun a _ s' => Q a s') (fun e _ s' => E e s') p s
noncomputable def codeC (M : Model) (A : Around) (c : Code) (R : Result -> Shared -> Prop) (s : Shared) : Prop :=
 ∀ Γ p, Γ.code = c -> Γ.Below A -> Called Γ -> wpCode M Γ R p s
section
variable {α β : Type} {M : Model} {A : Around} {E E' : Value -> Shared -> Prop} {s : Shared} {R : Result -> Shared -> Prop}
theorem wpC_of {t : Sem α} {Q : α -> Shared -> Prop} (h : wpAny M A t Q E s) : wpC M A t Q E s := fun Γ p hΓ _ => h Γ p hΓ
theorem codeC_of {c : Code} (h : codeAny M A c R s) : codeC M A c R s := fun Γ p hc hΓ _ => h Γ p hc hΓ
theorem wpC_mono {t : Sem α} {Q Q' : α -> Shared -> Prop} (h : wpC M A t Q E s) (hQ : ∀ a s, Q a s -> Q' a s) (hE : ∀ e s, E e s -> E' e s) : wpC M A t Q' E' s :=
 fun Γ p hΓ hc => Sem.wp_mono M Γ t (fun a _ s => hQ a s) (fun e _ s => hE e s) p s (h Γ p hΓ hc)
theorem wqC {t t' : Sem α} {Q : α -> Shared -> Prop} (e : t = t') (h : wpC M A t' Q E s) : wpC M A t Q E s := e ▸ h
theorem hidC {t : Sem α} {Q : α -> Shared -> Prop} (h : ∀ Q' E', Q' = Q -> E' = E -> wpC M A t Q' E' s) : wpC M A t Q E s := h Q E rfl rfl
theorem wpC_bind {m : Sem α} {f : α -> Sem β} {Q : β -> Shared -> Prop} (h : wpC M A m (fun a s' => wpC M A (f a) Q E s') E s) : wpC M A (m >>= f) Q E s := fun Γ p hΓ hc => by
 rw [Sem.wp_bind']
 exact Sem.wp_mono M Γ m (fun a p' s' h' => h' Γ p' hΓ hc) (fun _ _ _ h' => h') p s (h Γ p hΓ hc)
theorem wpC_bindA {m : Sem α} {f : α -> Sem β} {Q : β -> Shared -> Prop} (h : wpAny M A m (fun a s' => wpC M A (f a) Q E s') E s) : wpC M A (m >>= f) Q E s := wpC_bind (wpC_of h)
theorem wpC_holding {vs : List Value} {m : Sem α} {Q : α -> Shared -> Prop} (h : wpC M A m Q E s) : wpC M A (holding vs m) Q E s := fun Γ p hΓ hc => by rw [Sem.wp_holding]; exact h Γ p hΓ hc
theorem wpC_pure {a : α} {Q : α -> Shared -> Prop} (h : Q a s) : wpC M A (pure a) Q E s := wpC_of (wpAny_pure h)
theorem wpC_onRaise {m : Sem α} {k : Value -> Sem Unit} {Q : α -> Shared -> Prop} (h : wpC M A m Q (fun e s' => wpAny M A (k e) (fun _ s'' => E e s'') E s') s) : wpC M A (m.onRaise k) Q E s := fun Γ p hΓ hc => by
 rw [Sem.wp_onRaise]
 exact Sem.wp_mono M Γ m (fun _ _ _ h' => h') (fun e p' s' h' => h' Γ p' hΓ) p s (h Γ p hΓ hc)
theorem wpC_attempt {α : Type} {m : Sem α} {Q : Except Value α -> Shared -> Prop} (h : wpC M A m (fun a => Q (.ok a)) (fun e => Q (.error e)) s) : wpC M A m.attempt Q E s := fun Γ p hΓ hc => by rw [Sem.wp_attempt]; exact h Γ p hΓ hc
theorem called_enter {Γ : Ctx} {c : Code} {h : Option Value} {p : Pos} (hc : Called Γ) : Called (Γ.enter c h p) := by
 show ((Γ.code, p) :: Γ.below).any (fun c => c.1.isCaller) = true
 rw [List.any_cons, hc, Bool.or_true]
theorem wpC_run {c : Code} {h : Option Value} {Q : Flow -> Shared -> Prop} (hc : codeC M (A.mark h) c (fun r s' => match r with | .ok f => Q f s' | .error e => E e s') s) (hnb : h ≠ some byPass) : wpC M A (run c h) Q E s :=
 fun Γ p hΓ k => by rw [Sem.wp_run]; exact hc _ p rfl (hΓ.enter c h p hnb) (called_enter k)
theorem wpC_runValue {c : Code} {Q : Value -> Shared -> Prop} (hc : codeC M A c (fun r s' => match r with | .ok (.ret v) => Q v s' | .ok _ => False | .error e => E e s') s) : wpC M A (runValue c) Q E s :=
 fun Γ p hΓ k => by rw [Sem.wp_runValue]; exact hc _ p rfl (hΓ.enter c none p (by intro x; cases x)) (called_enter k)
theorem wpC_call {f : Value} {pos : List Value} {kw : List (Str × Value)} {Q : Value -> Shared -> Prop} (hc : codeC M A (.call f ⟨pos, kw⟩) (fun r s' => match r with | .ok (.ret v) => Q v s' | .ok _ => False | .error e => E e s') s) : wpC M A (call f pos kw) Q E s := wpC_runValue hc
theorem codeC_of_tree {c : Code} (h : wpC M (A.under c) (M.den c) (fun fin s' => match fin with | .done f => R (.ok f) s' | .again c' => c'.quiet = true /\ codeC M A c' R s') (fun e s' => R (.error e) s') s) : codeC M A c R s := fun Γ p hc hΓ k => by
 rw [wpCode_iff_wp, hc]
 refine Sem.wp_mono M Γ _ (fun fin p' s' h' => ?_) (fun _ _ _ h' => h') p s (h Γ p (hc ▸ hΓ.in) k)
 cases fin with
 | done f => exact h'
 | again c' => exact ⟨h'.1, h'.2 (Γ.goto c') p' rfl (hΓ.goto c') k⟩
theorem codeC_mono {c : Code} {R' : Result -> Shared -> Prop} (h : codeC M A c R s) (hR : ∀ r s, R r s -> R' r s) : codeC M A c R' s := fun Γ p hc hΓ k => wpCode_mono hR (h Γ p hc hΓ k)
theorem wpC_mark {own : List String} {e : Value} {Q : Unit -> Shared -> Prop} (h : Q () s) : wpC M A (markTheRefusal own e) Q E s := fun Γ p hΓ k => by
 unfold markTheRefusal
 rw [Sem.wp_bind']
 show Sem.wp M Γ (if pythonCodeMadeTheCall own (((Γ.code, p) :: Γ.below).map (·.1)) = true then _ else _) _ _ p s
 have hno : pythonCodeMadeTheCall own (((Γ.code, p) :: Γ.below).map (·.1)) = false := by
  have h1 : (((Γ.code, p) :: Γ.below).map (·.1)).any Code.isCaller = true := by
   rw [List.map_cons, List.any_cons, List.any_map]
   have : (Γ.below.any (Code.isCaller ∘ fun x => x.1)) = true := k
   rw [this, Bool.or_true]
  show ((!((((Γ.code, p) :: Γ.below).map (·.1)).any Code.isCaller) && _) && _) = false
  rw [h1]
  rfl
 rw [hno]
 exact h
end
section
variable {prog : Program} {w : World} {A : Around} {E : Value -> Shared -> Prop} {s : Shared} {R : Result -> Shared -> Prop}
theorem codeC_builtin {id : String} {args : Args} {b : Builtin} (hb : entryFor table id = some b)
  (h : wpC (model prog w) (A.under (.builtin id args)) (b args) (fun fin s' => match fin with | .done f => R (.ok f) s' | .again c' => c'.quiet = true /\ codeC (model prog w) A c' R s') (fun e s' => R (.error e) s') s) : codeC (model prog w) A (.builtin id args) R s := by
 refine codeC_of_tree ?_
 show wpC _ _ (match entryFor table id with | some b => b args | none => unsupported ((withoutEnding? id "#data").getD id)) _ _ s
 rw [hb]; exact h
theorem codeC_call_builtin {id : String} {args : Args} {b : Builtin} (hq : plainId id = true) (hb : entryFor table id = some b) (hck : checkBuiltinCall id args = pure ())
  (h : wpC (model prog w) A.in1 (b args) (fun fin s' => match fin with | .done f => R (.ok f) s' | .again c' => c'.quiet = true /\ codeC (model prog w) A c' R s') (fun e s' => R (.error e) s') s) : codeC (model prog w) A (.call (.builtin id) args) R s := by
 refine codeC_of_tree ?_
 show wpC _ A.in1 (do checkBuiltinCall id args; again (.builtin id args)) _ _ s
 rw [hck]
 refine wpC_bind (wpC_pure (wpC_of (wpAny_pure (And.intro (plainId_quiet hq args) (codeC_builtin hb ?_)))))
 rw [Around.under_plainId hq args]; exact h
end
section
variable {prog : Program} {w : World} {A : Around} {E : Value -> Shared -> Prop} {s : Shared}
theorem wpC_ite_true {α : Type} {M : Model} {c : Prop} [Decidable c] {a b : Sem α} {Q : α -> Shared -> Prop} (hc : c) (h : wpC M A a Q E s) : wpC M A (if c then a else b) Q E s := by rw [if_pos hc]; exact h
theorem wpC_ite_false {α : Type} {M : Model} {c : Prop} [Decidable c] {a b : Sem α} {Q : α -> Shared -> Prop} (hc : ¬ c) (h : wpC M A b Q E s) : wpC M A (if c then a else b) Q E s := by rw [if_neg hc]; exact h
theorem int_refuses {x : Str} {t : Tok} {Q : Value -> Shared -> Prop} (hh : A.handled = none) (hx : x.length <= 640) (hr : (int_private% "readNumeral") 0 10 (numSeenOf x) = int_private% "Numeral.invalid") (hrep : (PySem.reprText x).length <= 1000)
  (h : ∀ vs h' tk e, Heap.MadeExc s.heap h' e "ValueError" vs -> E (.ref e) (St s h' tk)) : wpC (model prog w) A ((int_private% "intFromText") (.str x t) (numTextOf x) 10) Q E s := by
 have hs : (numSeenOf x).length <= 640 := Nat.le_trans (seen_length x) hx
 with_unfolding_all refine wpC_ite_true hs ?_
 refine wpC_bindA (wpAny_pure ?_)
 dsimp only
 have hr' : (int_private% "readNumeral") 0 10 (List.takeWhile (fun x => x != 0) (numTextOf x)) = _ := hr
 rw [hr']
 dsimp only
 refine wpC_bindA ?_
 repeat wp_step
 refine wpC_ite_false (by simp) ?_
 refine wpC_bindA (wpAny_rule ?_)
 refine wpC_bindA ?_
 repeat wp_step
 dsimp only
 unfold pyRepr
 refine wpC_bindA (wpAny_bind (pyReprObj_str (wpAny_pure ?_) (Nat.le_trans hrep (by decide))))
 refine wpC_bindA (wpAny_mkStr ?_ ?_)
 ·refine wpC_bindA (wpAny_newExc_plain plainExc_ValueError fun h' e hm => wpC_bind (wpC_mark (wpC_of (wpAny_raiseNew_none hh (h _ h' _ e hm)))))
 ·refine Nat.le_trans (Nat.le_of_eq (PySem.Str.length_append _ _)) ?_
  refine Nat.le_trans (Nat.add_le_add (show (oS (toString "invalid literal for int() with base " ++ toString 10 ++ toString ": ")).length <= 100 from by decide +kernel) (show (PySem.Str.mk ((PySem.reprText x).cps.extract 0 200)).length <= 200 from ?_)) (by decide)
  show ((PySem.reprText x).cps.extract 0 200).size <= 200
  rw [Array.size_extract]
  omega
theorem new_refuses {x : Str} {t : Tok} {Q : Fin -> Shared -> Prop} (hh : A.handled = none) (hx : x.length <= 640) (hr : (int_private% "readNumeral") 0 10 (numSeenOf x) = int_private% "Numeral.invalid") (hrep : (PySem.reprText x).length <= 1000)
  (h : ∀ vs h' tk e, Heap.MadeExc s.heap h' e "ValueError" vs -> E (.ref e) (St s h' tk)) : wpC (model prog w) A (Builtin.«int.__new__» ⟨[.type "int", .str x t], []⟩) Q E s := by
 have f1 := F.conv_sub_int
 have f2 := F.madeHere_int
 have f3 := KIN.str_int
 have f4 := KIN.str_idx
 have f5 := KIN.str_trunc
 have f6 : typeOf (.str x t) = pure (.type "str") := rfl
 with_unfolding_all refine wpC_bindA ?_
 repeat wp_step
 dsimp only
 refine wpC_ite_false (by decide) ?_
 refine wpC_bindA (wpAny_of_eq f1 ?_)
 refine wpC_ite_false (by decide) ?_
 refine wpC_bindA (wpAny_of_eq f2 ?_)
 refine wpC_ite_false Bool.false_ne_true ?_
 refine wpC_ite_false (show ¬ (1 + 0 > 2) from by decide) ?_
 refine wpC_bindA ?_
 repeat wp_step
 refine wpC_bind ?_
 with_unfolding_all refine wpC_bindA ?_
 repeat wp_step
 dsimp only
 refine wpC_bindA ?_
 repeat wp_step
 refine wpC_ite_false (by simp) ?_
 refine wpC_bindA ?_
 repeat wp_step
 dsimp only
 refine wpC_bindA ?_
 repeat wp_step
 exact int_refuses hh hx hr hrep h
theorem call_refuses {x : Str} {t : Tok} {Q : Value -> Shared -> Prop} (hh : A.handled = none) (hx : x.length <= 640) (hr : (int_private% "readNumeral") 0 10 (numSeenOf x) = int_private% "Numeral.invalid") (hrep : (PySem.reprText x).length <= 1000)
  (h : ∀ vs h' tk e, Heap.MadeExc s.heap h' e "ValueError" vs -> E (.ref e) (St s h' tk)) : wpC (model prog w) A (call (.type "int") [.str x t]) Q E s := by
 refine wpC_call (codeC_of_tree ?_)
 show wpC _ _ (callAny (.type "int") _) _ _ _
 refine wpC_of (wpAny_pure ⟨Code.quiet_builtin _ (by decide +kernel), codeC_builtin F.entry_type_call ?_⟩)
 rw [Around.under_plain (weight_type_call_type "int" [.str x t] []) (units_type_call_type "int" [.str x t] [])]
 obtain ⟨c, tl, hmro⟩ := F.called_int.mro
 have hmade := F.called_int.made
 have hsub := F.called_int.sub
 have h1 := F.called_int.notType
 have h2 := F.called_int.canCreate
 have h3 := F.typeCall_int_1 (.str x t)
 with_unfolding_all refine wpC_bindA ?_
 repeat wp_step
 dsimp only
 refine wpC_bindA (wpAny_of_eq hmro ?_)
 refine wpC_ite_false Bool.false_ne_true ?_
 refine wpC_bindA (wpAny_of_eq hmade ?_)
 dsimp only
 refine wpC_bindA (wpAny_pure ?_)
 refine wpC_bind (wpC_holding (wpC_call (codeC_call_builtin F.called_int.plain F.entry_int_new (F.newCall_int_1 _) ?_)))
 exact new_refuses hh hx hr hrep h
end
noncomputable def Tr2 (h base : Heap) (e : Addr) (cls a0 c fl : Value) : Prop :=
 ∃ oe vs T oT ts, h.get? e = some oe /\ (oe.cls = cls /\ vs[0]? = some a0) /\ oe.data = .fields vs /\ vs[1]? = some (.ref T) /\ base.get? T = none /\ T ≠ e /\ h.get? T = some oT /\ oT.data = .fields ts /\ ts[3]? = some fl /\ vs[2]? = some c
theorem Tr2.traced {h base : Heap} {e : Addr} {cls a0 c fl : Value} (x : Tr2 h base e cls a0 c fl) : h.TracedAtW base e cls a0 fl := by
 obtain ⟨oe, vs, T, oT, ts, h1, h2, h3, h4, h5, h6, h7, h8, h9, _⟩ := x
 exact ⟨oe, vs, T, oT, ts, h1, h2, h3, h4, h5, h6, h7, h8, h9⟩
structure Hot (base : Heap) (l : List Env) (e : Addr) (cls a0 c fl : Value) (h : Heap) : Prop where
 stays : base.StaysIn h
 fresh : base.get? e = none
 frames : h.FunFrames base l
 tr : Tr2 h base e cls a0 c fl
section
variable {M : Model} {A : Around} {E : Value -> Shared -> Prop} {s : Shared} {base : Heap} {env : Env} {outer : List Env} {L e : Addr} {cls a0 c fl : Value} {Q : Unit -> Shared -> Prop}
theorem note_first {oe : Obj} {vs : Array Value} (hfr : A.frames = some (env :: outer)) (hl : s.heap.FunFrames base (env :: outer)) (hf : env.frame = some L) (he : s.heap.get? e = some oe) (hkb : base.StaysIn s.heap) (hen : base.get? e = none) (hd : oe.data = .fields vs) (h1 : vs[1]? = some .none) (h0 : vs[0]? = some a0) (h2 : vs[2]? = some c)
  (h : ∀ h', Hot base (env :: outer) e oe.cls a0 c (rawInt L) h' -> s.heap.UpToSlots h' -> Q () { s with heap := h' }) : wpAny M A (noteFrame (.ref e) env) Q E s := by
 have hsz : 1 < vs.size := (Array.getElem?_eq_some_iff.mp h1).1
 unfold noteFrame
 simp only [hf]
 refine wpAny_bind (wpAny_field he hd h1 ?_)
 rw [if_neg (by decide)]
 have hene : e ∉ (env :: outer).filterMap (·.frame) := fun hm => by
  obtain ⟨_, o, ho, hnf⟩ := hl.mem hm
  rw [he] at ho; injection ho with ho; subst ho; exact hnf vs hd
 refine wpAny_bind (wpAny_frameOf_fun hfr hl hf fun hAZ hsA => ?_)
 refine wpAny_bind (wpAny_entryPlaceOf fun pl hpl => ?_)
 unfold EntryCells.newEntry newFields
 refine wpAny_bind (wpAny_newObj_type ?_ (hpl.sizeOk5 _ _ _ _ _))
 have heA : hAZ.get? e = some oe := (hsA.2.1 e hene).trans he
 have kbA : base.StaysIn hAZ := fun b o hbo => (hsA.2.1 b fun hm => by rw [(hl.mem hm).1] at hbo; cases hbo).trans (hkb b o hbo)
 generalize hT : ({ cls := .type "traceback", dict := none, data := .fields ([Value.none, .ref L, .none, rawInt L, .none] ++ (if pl.isEmpty then List.replicate 6 Value.none else pl)).toArray } : Obj) = oT
 have heB := Heap.get?_push_of_some (h := hAZ) oT heA
 have hTe : hAZ.objs.size ≠ e := Nat.ne_of_gt (Heap.lt_size heA)
 have hdCZ := Obj.data_mapFields hd (·.setIfInBounds 1 (Value.ref hAZ.objs.size))
 have heCZ := Heap.get?_update_self (Obj.mapFields (·.setIfInBounds 1 (Value.ref hAZ.objs.size))) heB (Obj.isFreed_of_fields hdCZ)
 have hTCZ := (Heap.get?_update_other (hAZ.push oT) (Obj.mapFields (·.setIfInBounds 1 (Value.ref hAZ.objs.size))) (Ne.symm hTe)).trans (Heap.get?_push_size hAZ (by subst hT; rfl))
 refine wpAny_setField heB hd hsz ?_
 have keep : ∀ b o, b ≠ e -> hAZ.get? b = some o -> ((hAZ.push oT).update e (Obj.mapFields (·.setIfInBounds 1 (Value.ref hAZ.objs.size)))).get? b = some o := fun b o hbe hb => by
  rw [Heap.get?_update_other _ _ (Ne.symm hbe)]
  exact Heap.get?_push_of_some _ hb
 have noRecord : ∀ b o, s.heap.get? b = some o -> (∀ vs, o.data ≠ .fields vs) -> b ≠ e := fun b o hb hnf q => by
  rw [q, he] at hb; injection hb with hb; subst hb; exact hnf vs hd
 refine h _ ⟨fun b o hbo => keep b o (fun q => by rw [q, hen] at hbo; cases hbo) (kbA b o hbo), hen, hl.of_keeps fun b o hb hnf => ?_, ?_⟩ fun b o hb hnf => ?_
 ·obtain ⟨sl, hs⟩ := hsA.2.2 b o hb
  exact ⟨_, keep b _ (noRecord b o hb hnf) hs, rfl⟩
 ·refine ⟨_, _, hAZ.objs.size, oT, _, heCZ, ⟨Obj.cls_mapFields _ _, by rw [Array.getElem?_setIfInBounds_ne (by decide)]; exact h0⟩, hdCZ, by simp [hsz], kbA.fresh, hTe, hTCZ, by subst hT; rfl, ?_, by rw [Array.getElem?_setIfInBounds_ne (by decide)]; exact h2⟩
  first | (simp; done) | (rcases hpl with rfl | ⟨_, _, _, _, _, _, _, rfl⟩ <;> simp)
 ·obtain ⟨sl, hs⟩ := hsA.2.2 b o hb
  exact ⟨sl, keep b _ (noRecord b o hb hnf) hs⟩
theorem flight_set {l : List Env} {f : Option Addr} (x : Hot base l e cls a0 c fl s.heap) (h : ∀ h', Hot base l e cls a0 c (f.elim Value.none fun f => rawInt f) h' -> s.heap.UpToSlots h' -> Q () { s with heap := h' }) : wpAny M A (setFlight (.ref e) f) Q E s := by
 obtain ⟨hkb, hen, hl, oe, vs, T, oT, ts, he, hcls, hd, h1, hnT, hTe, hT, hdT, h3, h2⟩ := x
 have hsz3 : 3 < ts.size := (Array.getElem?_eq_some_iff.mp h3).1
 have other : ∀ b, b ≠ T -> (s.heap.update T (Obj.mapFields (·.setIfInBounds 3 (f.elim Value.none fun f => rawInt f)))).get? b = s.heap.get? b := fun b hb => Heap.get?_update_other _ _ (Ne.symm hb)
 have noRecord : ∀ b o, s.heap.get? b = some o -> (∀ vs, o.data ≠ .fields vs) -> b ≠ T := fun b o hb hnf q => by
  rw [q, hT] at hb; injection hb with hb; subst hb; exact hnf ts hdT
 unfold setFlight
 refine wpAny_bind (wpAny_field he hd h1 ?_)
 rw [if_pos (show (Value.ref T != Value.none) = true from by simp)]
 refine wpAny_setField hT hdT hsz3 (h _ ⟨fun b o hbo => (other b fun q => by rw [q, hnT] at hbo; cases hbo).trans (hkb b o hbo), hen, hl.of_keeps fun b o hb hnf => ⟨o, (other b (noRecord b o hb hnf)).trans hb, rfl⟩, ?_⟩ fun b o hb hnf => ⟨o.slots, (other b (noRecord b o hb hnf)).trans hb⟩)
 exact ⟨oe, vs, T, _, _, (other e (Ne.symm hTe)).trans he, hcls, hd, h1, hnT, hTe, Heap.get?_update_self _ hT (Obj.isFreed_of_fields (Obj.data_mapFields hdT _)), Obj.data_mapFields hdT _, by simp [hsz3], h2⟩
theorem note_again {l : List Env} (hf : env.frame = some L) (x : Hot base l e cls a0 c (rawInt L) s.heap) (h : Q () s) : wpAny M A (noteFrame (.ref e) env) Q E s := wpAny_noteFrame_againW hf x.tr.traced h
theorem Hot.there {l : List Env} {h : Heap} (x : Hot base l e cls a0 c fl h) : ∃ ob, h.get? e = some ob /\ ob.cls = cls := x.tr.traced.there
theorem came_back (hf : env.frame = some L) {l : List Env} {E : Value -> Shared -> Prop} (x : Hot base l e cls a0 c fl s.heap) (h : ∀ h', Hot base l e cls a0 c (rawInt L) h' -> s.heap.UpToSlots h' -> E (.ref e) { s with heap := h' }) : cameBackBy M A env E (.ref e) s := by
 obtain ⟨oe, vs, T, oT, ts, he, hcls, hd, h1, _⟩ := x.tr
 show wpAny M A _ _ _ _
 refine wpAny_bind (wpAny_field he hd h1 ?_)
 rw [if_neg (by simp)]
 rw [hf]
 exact flight_set x fun h' hx hu => h h' hx hu
end
theorem entry_unchain : entryFor table "proto.unchain" = some Builtin.«proto.unchain» := entryFor_of_fast (by kernel_rfl)
section
variable {prog : Program} {w : World} {A : Around} {E : Value -> Shared -> Prop} {s : Shared} {env : Env}
theorem unchain_none {e e2 : Addr} {oe : Obj} {vs : Array Value} {Q : Value -> Shared -> Prop} (he : s.heap.get? e = some oe) (hd : oe.data = .fields vs) (h2 : vs[2]? = some .none) (h : Q .none s) : wpAny (model prog w) A (runValue (.builtin "proto.unchain" ⟨[.ref e2, .ref e, .ref e, .bool false], []⟩)) Q E s := by
 refine wpAny_runValue (codeAny_builtin entry_unchain ?_)
 unfold Builtin.«proto.unchain»
 dsimp only
 refine wpAny_bind (wpAny_field he hd h2 ?_)
 rw [if_pos (by decide)]
 exact wpAny_pure h
theorem raiseNew_ctx {α : Type} {e e2 : Addr} {oe o2 : Obj} {vs ws : Array Value} {Q : α -> Shared -> Prop} (hh : A.handled = some (.ref e)) (hne : e ≠ e2) (he : s.heap.get? e = some oe) (hd : oe.data = .fields vs) (h2 : vs[2]? = some .none)
  (ho : s.heap.get? e2 = some o2) (hd2 : o2.data = .fields ws) (hsz : 2 < ws.size) (h : E (.ref e2) { s with heap := s.heap.update e2 (Obj.mapFields (·.setIfInBounds 2 (.ref e))) }) : wpAny (model prog w) A (raiseNew (.ref e2) : Sem α) Q E s := by
 unfold raiseNew
 refine wpAny_bind (wpAny_handled ?_)
 rw [hh]
 dsimp only
 rw [if_pos (show (Value.ref e != Value.ref e2) = true from by simp [hne])]
 refine wpAny_bind (wpAny_holding (unchain_none he hd h2 ?_))
 refine wpAny_bind ?_
 show wpAny (model prog w) A (setField (.ref e2) 2 (.ref e)) _ E s
 exact wpAny_setField ho hd2 hsz (wpAny_throw h)
theorem raiseStmt_ctx {cls : String} (F : ExcRaiseFacts cls) {x : Sem Value} {e : Addr} {Q : Flow -> Shared -> Prop} (hh : A.handled = some (.ref e))
  (h : wpAny (model prog w) A x (fun v sA => ∃ e2 t, v = .ref e2 /\ e ≠ e2 /\ sA.heap.get? e2 = some { cls := .type cls, data := .fields #[.ref t, .none, .none, .none, .bool false, .none] } /\ (∃ oe vs, sA.heap.get? e = some oe /\ oe.data = .fields vs /\ vs[2]? = some .none) /\
   E (.ref e2) { sA with heap := sA.heap.update e2 (Obj.mapFields (·.setIfInBounds 2 (.ref e))) }) E s) : wpAny (model prog w) A (raiseStmt env (some x) none) Q E s := by
 unfold raiseStmt
 refine wpAny_bind (wpAny_mono h (fun v sA hAZ => ?_) fun _ _ x => x)
 obtain ⟨e2, t, rfl, hne, he2, ⟨oe, vs, he, hd, h2⟩, hE⟩ := hAZ
 obtain ⟨hp, g, d, tk, os⟩ := sA
 have hsub := F.isExc
 have hmeta := F.plainMeta
 repeat (first | refine wpAny_loadPart he2 ?_ | wp_step)
 exact raiseNew_ctx hh hne he hd h2 he2 rfl (show 2 < 6 from by decide) hE
end
noncomputable def Up (base : Heap) (env : Env) (outer : List Env) (hZ : Heap) (L : Addr) (m : Str -> Option Value) (news : List (Addr × Obj)) (X : String) (e : Addr) (c fl : Value) (h' : Heap) : Prop :=
 ∃ g B t vs, Fr hZ L g m /\ g.UpToSlots h' /\ base.StaysIn B /\ (∀ q ∈ news, B.get? q.1 = some q.2 /\ base.get? q.1 = none) /\ Hot B (env :: outer) e (.type X) (.ref t) c fl h' /\ B.get? t = none /\ h'.TupAt t vs
section
variable {M : Model} {w : World} {A : Around} {base hZ h : Heap} {outer : List Env} {L f e : Addr} {cd : Value} {name : Str} {scope : Scope} {m : Str -> Option Value} {news newsZ : List (Addr × Obj)} {X : String} {D U : Nat} {s s' : Shared} {c fl : Value} {Q : Unit -> Shared -> Prop} {E : Value -> Shared -> Prop} {R' : Value -> Shared -> Prop}
theorem AtX.frs {env : Env} (a : AtX w A base env outer hZ L D U) (F : Fr hZ L h m) : h.FunFrames base (env :: outer) := by
 obtain ⟨o, es, ep, ho, hd, _⟩ := F.ns
 refine ⟨by rw [a.at_.kd]; decide, ⟨L, o, a.at_.fr, ?_, ho, fun vs q => by rw [hd] at q; cases q⟩, a.bfr.of_keeps fun b o hb _ => ⟨o, F.keep b o hb, rfl⟩⟩
 cases q : base.get? L with
 | none => rfl
 | some o' =>
  exact absurd (Heap.lt_size (a.bst L o' q)) (Nat.not_lt.mpr F.above)
theorem up_made {A' : Around} {env : Env} {oe : Obj} {vs : Array Value} {t : Addr} {ws : List Value} (a : AtX w A base env outer hZ L D U) (hA : A'.frames = A.frames) (F : Fr hZ L h m) (N : News hZ L h news) (hk : ∀ b o, h.get? b = some o -> s.heap.get? b = some o) (hn : h.get? e = none) (he : s.heap.get? e = some oe) (hcls : oe.cls = .type X) (hd : oe.data = .fields vs) (h0 : vs[0]? = some (.ref t)) (h1 : vs[1]? = some .none) (h2 : vs[2]? = some c)
  (htn : h.get? t = none) (ht : s.heap.get? t = some { cls := .type "tuple", data := .seq ws.toArray })
  (hQ : ∀ h', Up base env outer hZ L m news X e c (rawInt L) h' -> s.heap.UpToSlots h' -> Q () { s with heap := h' }) : wpAny M A' (noteFrame (.ref e) env) Q E s := by
 have frs := a.frs F
 have hin : ∀ env' ∈ (env :: outer), ∀ b, env'.frame = some b -> b ∈ (env :: outer).filterMap (·.frame) := fun env' he b hb => List.mem_filterMap.mpr ⟨env', he, hb⟩
 have st : base.StaysIn (hideAll h ((env :: outer).filterMap (·.frame))) := fun b o q => hideAll_get _ (F.keep b o (a.bst b o q)) fun hm => by
  rw [(frs.mem hm).1] at q; cases q
 have hl : ∀ q ∈ news, (hideAll h ((env :: outer).filterMap (·.frame))).get? q.1 = some q.2 /\ base.get? q.1 = none := fun q hq => by
  refine ⟨hideAll_get _ (N q hq).1 fun hm => ?_, fresh_of_stays a.bst (N q hq).2.2⟩
  obtain ⟨env', he', hf⟩ := List.mem_filterMap.mp hm
  rcases zC.mp he' with rfl | he'
  ·rw [a.at_.fr] at hf
   exact (N q hq).2.1 (Option.some.inj hf).symm
  ·obtain ⟨o, ho, _⟩ := (a.bfr.mem (List.mem_filterMap.mpr ⟨env', he', hf⟩)).2
   rw [(N q hq).2.2] at ho; cases ho
 have frB := funFrames_hide frs hin
 have none_hide : ∀ {b : Addr}, h.get? b = none -> (hideAll h ((env :: outer).filterMap (·.frame))).get? b = none := fun {b} hb => by
  cases q : (hideAll h ((env :: outer).filterMap (·.frame))).get? b with
  | none => rfl
  | some o => have := of_hideAll _ q; rw [hb] at this; cases this
 refine note_first (hA.trans a.frx) (frB.of_keeps fun b o hb _ => ⟨o, hk b o hb, rfl⟩) a.at_.fr he (fun b o q => hk b o (of_hideAll _ q)) (none_hide hn) hd h1 h0 h2 fun h' hot hu => hQ h' ⟨h, _, t, ws, F, (Heap.UpToSlots.of_keeps hk).trans hu, st, hl, hcls ▸ hot, none_hide htn, ?_⟩ hu
 exact Heap.TupAt.of_slots ⟨_, _, ht, rfl, rfl⟩ hu
theorem up_flight {env : Env} {f' : Option Addr} (x : Up base env outer hZ L m news X e c fl s.heap) (h : ∀ h', Up base env outer hZ L m news X e c (f'.elim Value.none fun f => rawInt f) h' -> Q () { s with heap := h' }) : wpAny M A (setFlight (.ref e) f') Q E s := by
 obtain ⟨g, B, t, vs, F, hu, hB, hl, hot, ht, htup⟩ := x
 exact flight_set hot fun h' hot' hu' => h h' ⟨g, B, t, vs, F, hu.trans hu', hB, hl, hot', ht, Heap.TupAt.of_slots htup hu'⟩
theorem up_again {env : Env} (hf : env.frame = some L) (x : Up base env outer hZ L m news X e c (rawInt L) s.heap) (h : Q () s) : wpAny M A (noteFrame (.ref e) env) Q E s := by
 obtain ⟨g, B, t, vs, F, hu, hB, hl, hot, ht, htup⟩ := x
 exact note_again hf hot h
theorem up_back {env : Env} (hf : env.frame = some L) (x : Up base env outer hZ L m news X e c fl s.heap) (h : ∀ h', Up base env outer hZ L m news X e c (rawInt L) h' -> E (.ref e) { s with heap := h' }) : cameBackBy M A env E (.ref e) s := by
 obtain ⟨g, B, t, vs, F, hu, hB, hl, hot, ht, htup⟩ := x
 exact came_back hf hot fun h' hot' hu' => h h' ⟨g, B, t, vs, F, hu.trans hu', hB, hl, hot', ht, Heap.TupAt.of_slots htup hu'⟩
theorem leave_up (a : AtX w A base (envOf name scope L f cd) outer hZ L D U) (ok : RaiseOk base outer hZ newsZ X s R') (hsub : ∀ q ∈ newsZ, q ∈ news) {h' : Heap} {tk : Nat} (x : Up base (envOf name scope L f cd) outer hZ L m news X e c (rawInt L) h') : EBody M A (envOf name scope L f cd) R' (.ref e) (St s h' tk) := by
 obtain ⟨g, B, t, vs, F, hu, hB, hl, hot, ht, htup⟩ := x
 show wpAny M A (leaving _ _) _ _ _
 unfold leaving
 refine wpAny_bind (note_again rfl hot ?_)
 refine flight_set hot fun h2 hot2 hu2 => ok e h2 tk t vs ⟨⟨B, hB, fun q hq => hl q (hsub q hq), ⟨hot2.stays, hot2.fresh, hot2.frames.2.2, hot2.tr.traced⟩, ht⟩, Heap.TupAt.of_slots htup hu2⟩ ((Heap.UpToSlots.of_keeps F.keep).trans (hu.trans hu2))
theorem up_ground {env : Env} (a : AtX w A base env outer hZ L D U) (hN : ∀ q ∈ news, hZ.get? q.1 = none) {h5 : Heap} (x : Up base env outer hZ L m news X e c fl h5) :
  ∃ g', AtX w A base env outer g' L D U /\ Fr g' L h5 m /\ News g' L h5 news /\ hZ.UpToSlots g' := by
 obtain ⟨g, B, t, vs, F, hu, hB, hl, hot, ht, htup⟩ := x
 have hLn : B.get? L = none := by
  obtain ⟨_, ⟨L', _, hf, hn', _⟩, _⟩ := hot.frames
  obtain rfl : L = L' := Option.some.inj (a.at_.fr.symm.trans hf)
  exact hn'
 have hbl : ∀ b o, base.get? b = some o -> b < hZ.objs.size := fun b o e => Heap.lt_size (a.bst b o e)
 have hnl : ∀ b, B.get? b = none -> b ∉ news.map (·.1) := fun b hb q => by
  obtain ⟨p, hp, rfl⟩ := List.mem_map.mp q
  rw [(hl p hp).1] at hb; cases hb
 refine ⟨behind h5 hZ.objs.size (news.map (·.1)), ?_⟩
 have hb5 : base.StaysIn (behind h5 hZ.objs.size (news.map (·.1))) := fun b o e => behind_get (hbl b o e) (fun q => by
  obtain ⟨p, hp, rfl⟩ := List.mem_map.mp q
  rw [(hl p hp).2] at e; cases e) (hot.stays b o (hB b o e))
 have hfr5 : (behind h5 hZ.objs.size (news.map (·.1))).FunFrames base outer := frames_behind (Nat.le_refl _) a.bfr hot.frames.2.2 hnl
 obtain ⟨p, loose, mean, mg, mb, T⟩ := a.bT
 refine ⟨⟨⟨⟨p, loose, mean, mg, mb, { A with frames := some outer }, base, outer, ⟨rfl, hb5, hfr5⟩, T.keeps hb5, a.frx⟩, a.at_.hh, a.at_.fr, a.at_.lo, a.at_.kd, a.bK.keeps hb5, a.at_.dp, a.at_.un, ⟨base, outer, a.frx, hb5, hfr5, a.bK, a.bT, a.dpx, a.unx⟩⟩, a.frx, hb5, hfr5, a.bK, a.bT, a.dpx, a.unx⟩,
  ⟨hu.ns F.ns, fun b o e => (of_behind e).1, Nat.le_trans (behind_size _ _ _) F.above⟩, fun q hq => ⟨hot.stays _ _ (hl q hq).1, fun z => ?_, hideAll_none _ (List.mem_map_of_mem hq)⟩, fun b o e hnf => ?_⟩
 ·have := (hl q hq).1
  rw [z, hLn] at this; cases this
 ·obtain ⟨sl, hs⟩ := hu b o (F.keep b o e) hnf
  exact ⟨sl, behind_get (Heap.lt_size e) (fun q => by
   obtain ⟨p, hp, rfl⟩ := List.mem_map.mp q
   rw [hN p hp] at e; cases e) hs⟩
end
section
variable {prog : Program} {w : World} {A : Around} {base hZ : Heap} {outer : List Env} {L f e : Addr} {cd : Value} {name : Str} {scope : Scope} {m : Str -> Option Value} {news : List (Addr × Obj)} {X T' : String} {D U : Nat} {s' : Shared} {c : Value} {Q : Flow -> Shared -> Prop} {E : Value -> Shared -> Prop} {bZ : Stmt} {suite : List Stmt} {pos np : Pos} {rest : List ExceptHandler} {x : Str}
theorem caught_up (a : AtX w A base (envOf name scope L f cd) outer hZ L D U) (xZ : Up base (envOf name scope L f cd) outer hZ L m news X e c (rawInt L) s'.heap) (hN : ∀ q ∈ news, hZ.get? q.1 = none) (hx : nsIn (KK w.params) mainGlobals x = some none) (hv : bootBuiltins x = some (.type T')) (hne : x ≠ oS "__name__")
  (hexc : isSubtype (.type T') (.type "BaseException") = pure true) (hnt : isSubtype (.type ((Manifest.find? T').elim "type" fun y => y.metatype)) (.type "tuple") = pure false) (hsub : isSubtype (.type X) (.type T') = pure true)
  (k : ∀ h' g' tk, AtX w A base (envOf name scope L f cd) outer g' L D U -> Fr g' L h' m -> News g' L h' news -> hZ.UpToSlots g' -> Up base (envOf name scope L f cd) outer hZ L m news X e c .none h' ->
   wpAny (model prog w) (A.mark (some (.ref e))) (execs (bZ :: suite) (envOf name scope L f cd)) Q (notedBy (model prog w) (A.mark (some (.ref e))) (envOf name scope L f cd) (cameBackBy (model prog w) A (envOf name scope L f cd) E)) (St s' h' tk))
  (hxk : autoParam ((envOf name scope L f cd).kindOf x = some .globalImplicit) tA0) (hd : autoParam ((x == ("__debug__" : Str)) = false) tA1) :
  wpAny (model prog w) A (setFlight (.ref e) none) (fun _ sC => wpAny (model prog w) A (handleBy (.ref e) (envOf name scope L f cd) (.ExceptHandler (some (.Name x np)) none (bZ :: suite) pos :: rest)) Q E sC) E s' := by
 refine up_flight xZ fun hEZ x5 => ?_
 obtain ⟨g5, ax5, F5, _, _⟩ := up_ground a hN x5
 obtain ⟨ob, hob, hobc⟩ : ∃ ob, hEZ.get? e = some ob /\ ob.cls = .type X := by
  obtain ⟨_, _, _, _, _, _, _, _, hot, _⟩ := x5
  exact hot.there
 refine wpAny_handleBy_builtin (X := X) (T := T') (b := true) hexc hnt hsub (Ev.built (w := w) (M := model prog w) (A := A.mark (some (.ref e))) (ax5.at_.gl.keeps F5.keep) hx hv hne rfl rfl a.at_.kd hxk hd { s' with heap := hEZ } _ _ rfl fun v tk hv => ⟨hv, ⟨ob, hob, hobc⟩, ?_⟩)
 simp only [if_true]
 refine up_flight (s := (St s' hEZ tk)) x5 fun hFZ x6 => ?_
 obtain ⟨g6, ax6, F6, N6, U6⟩ := up_ground a hN x6
 exact k hFZ g6 tk ax6 F6 N6 U6 x6
end
theorem evL_mono {M : Model} {A : Around} {env : Env} {h : Heap} {es : List Expr} {R R' : List Value -> Prop} (h1 : EvL M A env h es R) (hr : ∀ vs, R vs -> R' vs) : EvL M A env h es R' := fun s Q E pos hh hq => h1 s Q E pos hh fun vs tk hv => hq vs tk (hr vs hv)
theorem RaiseOk.up {base : Heap} {l : List Env} {hZ g : Heap} {news : List (Addr × Obj)} {X : String} {s : Shared} {R' : Value -> Shared -> Prop} (ok : RaiseOk base l hZ news X s R') (hu : hZ.UpToSlots g) : RaiseOk base l g news X s R' := fun a h' tk t vs hK hu' => ok a h' tk t vs hK (hu.trans hu')
section
variable {w : World} {A : Around} {base hZ : Heap} {outer : List Env} {L f e : Addr} {cd : Value} {name : Str} {scope : Scope} {m : Str -> Option Value} {news newsZ : List (Addr × Obj)} {X newId initId : String} {D U : Nat} {s : Shared} {Q : Flow -> Shared -> Prop} {R' : Value -> Shared -> Prop} {x : Str} {np cpos pos : Pos} {eZ : Expr} {rest : List Stmt}
theorem st_raise (FC : ExcCallFacts X newId initId) (FR : ExcRaiseFacts X) (a : AtX w A base (envOf name scope L f cd) outer hZ L D U) (ok : RaiseOk base outer hZ newsZ X s R') (hsub : ∀ q ∈ newsZ, q ∈ news) (F : Fr hZ L s.heap m) (N : News hZ L s.heap news)
  (hx : nsIn (KK w.params) mainGlobals x = some none) (hv : bootBuiltins x = some (.type X)) (hne : x ≠ oS "__name__") (he : EvL (model rW.prog w) A (envOf name scope L f cd) s.heap [eZ] (fun vs => vs.length = 1))
  (hxk : autoParam ((envOf name scope L f cd).kindOf x = some .globalImplicit) tA0) (hd : autoParam ((x == ("__debug__" : Str)) = false) tA1) (hs : autoParam (starEach [eZ] (envOf name scope L f cd) = (false, eval eZ (envOf name scope L f cd)) :: starEach [] (envOf name scope L f cd)) tA0) :
  wpAny (model rW.prog w) A (execs (.Raise (some (.Call (.Name x np) [eZ] [] cpos)) none pos :: rest) (envOf name scope L f cd)) Q (EBody (model rW.prog w) A (envOf name scope L f cd) R') s := by
 refine wpAny_execs_cons (Raise_madeB FC FR a.at_.hh ?_ hs)
 refine Ev.built (w := w) (a.at_.gl.keeps F.keep) hx hv hne rfl rfl a.at_.kd hxk hd s _ _ rfl fun v tk hv' => ⟨hv', ?_⟩
 refine he (Tk s tk) _ _ cpos rfl fun vs tk' hvs => ⟨by rw [hvs]; decide, fun h' e' hm => ?_⟩
 exact leave_made a ok hsub F N hm.of a.at_.kd
theorem mk_exc {prog : Program} {env : Env} {Q E : Value -> Shared -> Prop} (FC : ExcCallFacts X newId initId) (G : Gl w s.heap) (hx : nsIn (KK w.params) mainGlobals x = some none) (hv : bootBuiltins x = some (.type X)) (hne : x ≠ oS "__name__") (hg : env.globals = mainGlobals) (hbl : env.builtins = builtinsNs) (hk : env.scope.kind = .function)
  (hxk : env.kindOf x = some .globalImplicit) (hd : (x == ("__debug__" : Str)) = false) (he : EvL (model prog w) A env s.heap [eZ] (fun vs => vs.length = 1)) (hs : starEach [eZ] env = (false, eval eZ env) :: starEach [] env) (hpl : (backTo cpos (starEach [eZ] env)).any (·.1) = false)
  (hq : ∀ h' e2 tk vs, Heap.MadeExc s.heap h' e2 X vs -> Q (.ref e2) (St s h' tk)) : wpAny (model prog w) A (eval (.Call (.Name x np) [eZ] [] cpos) env) Q E s := by
 refine wpAny_Call_ofName (Ev.built (w := w) G hx hv hne hg hbl hk hxk hd s _ _ rfl fun v tk hv' => ?_)
 subst hv'
 exact callWith_excType hpl (wq (congrArg (fun z => evalArgs _ _ (backTo cpos z) _) hs) (Calls.evalArgs_plain (wq (congrArg (fun z => spliced (backTo cpos z)) hs.symm) (he (St s s.heap tk) _ _ cpos rfl fun vs tk' hvs => wpAny_call_exc FC (hrest := by show vs.length <= _; rw [show vs.length = 1 from hvs]; decide) fun h' e2 hm => hq h' e2 tk' vs hm))))
theorem Up.exc {env : Env} {c fl : Value} {h : Heap} (x : Up base env outer hZ L m news X e c fl h) : ∃ oe ws, h.get? e = some oe /\ oe.data = .fields ws /\ ws[2]? = some c := by
 obtain ⟨_, _, _, _, _, _, _, _, hot, _⟩ := x
 obtain ⟨oe, ws, _, _, _, hoe, _, hdw, _, _, _, _, _, _, hc2⟩ := hot.tr
 exact ⟨oe, ws, hoe, hdw, hc2⟩
theorem exc_ctx {E : Value -> Shared -> Prop} {h h' : Heap} {e2 : Addr} {vs : List Value} {sA : Shared} (hh : sA.heap = h') (hm : Heap.MadeExc h h' e2 X vs) (x : ∃ oe ws, h.get? e = some oe /\ oe.data = .fields ws /\ ws[2]? = some .none)
  (hE : ∀ t, h'.get? e2 = some { cls := .type X, data := .fields #[.ref t, .none, .none, .none, .bool false, .none] } -> h.get? t = none -> h'.get? t = some { cls := .type "tuple", data := .seq vs.toArray } -> e2 ≠ t -> E (.ref e2) { sA with heap := sA.heap.update e2 (Obj.mapFields (·.setIfInBounds 2 (.ref e))) }) :
  ∃ e3 t, Value.ref e2 = .ref e3 /\ e ≠ e3 /\ sA.heap.get? e3 = some { cls := .type X, data := .fields #[.ref t, .none, .none, .none, .bool false, .none] } /\ (∃ oe vs, sA.heap.get? e = some oe /\ oe.data = .fields vs /\ vs[2]? = some .none) /\ E (.ref e3) { sA with heap := sA.heap.update e3 (Obj.mapFields (·.setIfInBounds 2 (.ref e))) } := by
 subst hh
 obtain ⟨t2, h2, ht2, ht2'⟩ := hm.there
 obtain ⟨oe, ws, hoe, hdw, hc2⟩ := x
 exact ⟨e2, t2, rfl, (fun q => by rw [q, hm.new] at hoe; cases hoe), h2, ⟨oe, ws, hm.keeps _ _ hoe, hdw, hc2⟩, hE t2 h2 ht2 ht2' fun q => by rw [<- q, h2] at ht2'; cases ht2'⟩
theorem st_raiseCtx {prog : Program} {c : Value} {Y : String} {g : Heap} (FC : ExcCallFacts X newId initId) (FR : ExcRaiseFacts X) (a : AtX w A base (envOf name scope L f cd) outer g L D U) (ok : RaiseOk base outer hZ newsZ X s R') (hu : hZ.UpToSlots g) (hsub : ∀ q ∈ newsZ, q ∈ news) (F : Fr g L s.heap m) (N : News g L s.heap news)
  (hup : Up base (envOf name scope L f cd) outer hZ L m news Y e .none .none s.heap)
  (hx : nsIn (KK w.params) mainGlobals x = some none) (hv : bootBuiltins x = some (.type X)) (hne : x ≠ oS "__name__") (he : EvL (model prog w) (A.mark (some (.ref e))) (envOf name scope L f cd) s.heap [eZ] (fun vs => vs.length = 1))
  (hxk : autoParam ((envOf name scope L f cd).kindOf x = some .globalImplicit) tA0) (hd : autoParam ((x == ("__debug__" : Str)) = false) tA1) (hs : autoParam (starEach [eZ] (envOf name scope L f cd) = (false, eval eZ (envOf name scope L f cd)) :: starEach [] (envOf name scope L f cd)) tA0) (hpl : autoParam ((backTo cpos (starEach [eZ] (envOf name scope L f cd))).any (·.1) = false) tA0) :
  wpAny (model prog w) (A.mark (some (.ref e))) (execs (.Raise (some (.Call (.Name x np) [eZ] [] cpos)) none pos :: rest) (envOf name scope L f cd)) Q
   (notedBy (model prog w) (A.mark (some (.ref e))) (envOf name scope L f cd) (cameBackBy (model prog w) A (envOf name scope L f cd) (EBody (model prog w) A (envOf name scope L f cd) R'))) s := by
 refine wpAny_execs_cons (wq (arm_exec_Raise ..) (wpAny_bind (wpAny_standAt (raiseStmt_ctx FR rfl (wpAny_bind (mk_exc FC (a.at_.gl.keeps F.keep) hx hv hne rfl rfl a.at_.kd hxk hd he hs hpl fun h' e2 tk' vs hm => wpAny_bind (wpAny_standAt (wpAny_pure (exc_ctx rfl hm hup.exc fun t2 h2 ht2 ht2' hte => ?_)))))))))
 refine up_made (A' := A.mark (some (.ref e))) (e := e2) (X := X) (c := .ref e) (t := t2) (ws := vs) a rfl F N (fun b o q => ?_) hm.new (Heap.get?_update_self _ h2 rfl) rfl rfl rfl rfl rfl ht2 ?_ fun h3 x3 _ => ?_
 ·rw [Heap.get?_update_other _ _ (fun z : e2 = b => by rw [<- z, hm.new] at q; cases q)]
  exact hm.keeps b o q
 ·exact (Heap.get?_update_other _ _ hte).trans ht2'
 ·exact up_back (hZ := g) (L := L) (m := m) (base := base) (outer := outer) (news := news) (X := X) (c := .ref e) (fl := rawInt L) (env := envOf name scope L f cd) rfl x3 fun h4 x4 => leave_up a (ok.up hu) hsub x4
end
section
variable {prog : Program} {w : World} {A : Around} {env : Env} {h : Heap} {e eB : Expr} {x y : Str} {pZ pA pB : Pos} {k0 : Nat}
theorem Ev.fmtAttr {pl : Sem Bool} (h1 : Ev (model prog w) A env h e (IsS x)) (h2 : Ev (model prog w) A env h eB (IsS y)) (hx : x.length <= 99999) (hy : y.length <= 99999)
  (hs : autoParam (starEach [e, eB] env = (false, eval e env) :: starEach [eB] env) tA0) (hs2 : autoParam (starEach [eB] env = (false, eval eB env) :: starEach [] env) tA0) (hnn : autoParam (((backTo pB (starEach [eB] env)).any fun x => x.1) = false) tA0)
  (hc : autoParam (eval (.Call (.Attribute (.Constant (.str (oS "{} message has no attribute {}")) k0 pZ) (oS "format") pA) [e, eB] [] pB) env = (do
   let ov <- eval (.Constant (.str (oS "{} message has no attribute {}")) k0 pZ) env
   standAt pA.atName
   let (f, first) <- holding [ov] (getMethod ov (oS "format") pl)
   callWith pB f first (backTo pB (starEach [e, eB] env)) [])) tA0) :
  Ev (model prog w) A env h (.Call (.Attribute (.Constant (.str (oS "{} message has no attribute {}")) k0 pZ) (oS "format") pA) [e, eB] [] pB) (IsS (x ++ oS " message has no attribute " ++ y)) := fun s Q E hh hq => by
 refine MethodCall_ (Ev.str (h := s.heap) s _ E rfl fun v tk hv => ?_) hc
 obtain ⟨t, rfl⟩ := hv
 refine KFm.method ?_
 refine PyProof.Rows.callWith_method1 (spliced_more (h1 (Tk s tk) _ E hh fun v tk' hv => spliced_more (h2 (Tk s tk') _ E hh fun v2 tk2 hv2 => spliced_none ?_) hs2) hs) hs hnn
 obtain ⟨t2, rfl⟩ := hv
 obtain ⟨t3, rfl⟩ := hv2
 exact fmt_attr hx hy fun t' k => hq _ k ⟨t', rfl⟩
end
structure BadMsg (k : Nat) (D : FD) (i : Nat) : Prop where
 type : dAt D (oS "type") = some (.str (kname k))
 at_ : ∃ n x, D[i]? = some (n, x) /\ (anames k).any (· == n) = false /\ n.length <= 99
 each : ∀ j p, j < i -> D[j]? = some p -> (anames k).any (· == p.1) = true /\ okV p.1 p.2
theorem check_msgdict_bad (w : World) (news : List (Addr × Obj)) {k : Nat} (hk : k < 18) {d : Addr} {o : Obj} {D : FD} {iZ : Nat} {T : List (Addr × Obj)} (hm : (d, o) ∈ news) (hD : DictIs rW.prog w T d o D) (hT : TOk w T news) (hg : BadMsg k D iZ) :
  GivesX w 170 4 12 [.ref d] [] news "ValueError" := by
 refine enterX 3 9 [(oS "msgdict", .ref d)] (fun A base outer g L s m R' a F hm' N ok => ?_)
 have e1 := hm' _ (.head _)
 clear hm'
 dsimp only at e1
 obtain ⟨es, n, sl, sk, sn⟩ := specs_lk w.params
 obtain ⟨es2, n2, tl, tk2, _, tn, tty, ttn⟩ := spec_lk w.params hk
 obtain ⟨al, alk, als⟩ := attrs_lk w.params hk
 have G := fun {h} {m} (F : Fr g L h m) => a.at_.gl.keeps F.keep
 refine st_assign F N (Ev.kGet F a.at_.K sl sk (sn k hk) (by decide) (Ev.glob (G F) (by k_is)) (Ev.mono (Ev.dItem N hm (Ev.nm F e1) Ev.str hD hg.type) fun v hv => by cases hv; exact ⟨_, rfl⟩)) ?_
 rintro _ h1 tk1 rfl F1 N1
 refine st_if (EvT.isNone (Ev.nm F1 rfl)) (fun tk b => nomatch b) (fun tk b => st_nil ?_)
 obtain ⟨lo, kvs, hd, hf⟩ := hD
 refine st_forItems a.at_.hh F1 N1 hm hd lo (Ev.nm F1 e1) (fun i m => i <= iZ /\ m (oS "spec") = some (.ref (specA k))) ⟨Nat.zero_le _, rfl⟩ ?_ ?_ passes_body
 ·intro i kx t x m2 h tk newsA hkv y81 hsub F2 N2
  obtain ⟨hi, hJ⟩ := y81
  obtain ⟨fx, hDi, hv⟩ := fld_get hf hkv
  rcases Nat.lt_or_ge i iZ with hlt | hge
  ·obtain ⟨ha, hok⟩ := hg.each i _ hlt hDi
   refine st_if (EvT.notInS (Ev.nmS F2 rfl) (Ev.kItem F2 a.at_.K tl tk2 tn (Ev.nm F2 hJ) Ev.str) (tupK (a.at_.K.keeps F2.keep) alk) als) (fun tk b => absurd b (by rw [ha]; exact Bool.false_ne_true)) (fun tk b => st_nil ?_)
   refine st_exprN F2 N2 (EvN.fn (RN := NoneNew) (a.at_.less (D' := 3) (U' := 9) (by decide) (by decide)) (fun h F N => Ev.glob (G F) (by k_is)) (by k_is) (fun h F N => EvL.cons (Ev.nmS F rfl) (EvL.one (Ev.nm F rfl) rfl)) (fun vs hvs => ?_)) ?_
   ·obtain ⟨_, _, rfl, ⟨t2, rfl⟩, _, rfl, rfl⟩ := hvs
    exact check_value w newsA hv (hT.mono hsub) hok
   ·intro y81 y82 h3 tk3 y83 l3 F3 N3
    obtain ⟨rfl, rfl⟩ := y83
    exact st_nil ⟨h3, tk3, _, rfl, F3, N3, hlt, hJ⟩
  ·obtain rfl : i = iZ := Nat.le_antisymm hi hge
   obtain ⟨nc, xc, hc, hno, hlen⟩ := hg.at_
   rw [hDi] at hc
   cases hc
   refine st_if (EvT.notInS (Ev.nmS F2 rfl) (Ev.kItem F2 a.at_.K tl tk2 tn (Ev.nm F2 hJ) Ev.str) (tupK (a.at_.K.keeps F2.keep) alk) als) (fun tk b => ?_) (fun tk b => absurd b (by rw [hno]; simp))
   exact st_raise PySem.F.excCall_ValueError PySem.F.excRaise_ValueError a ok hsub F2 N2 (by k_is) PyProof.Rows.Boot.«ValueError» (by decide) (evL_mono (EvL.one (Ev.fmtAttr (Ev.mono (Ev.kItem F2 a.at_.K tl tk2 ttn (Ev.nm F2 hJ) Ev.str) fun v hv => ⟨_, hv⟩) (Ev.nmS F2 rfl) (by have := kname_len hk; omega) (by omega))) fun vs ⟨_, h, _⟩ => by rw [h]; rfl)
 ·intro m2 h tk y81 F2 N2
  obtain ⟨hJ, _⟩ := y81
  obtain ⟨nc, xc, hc, _⟩ := hg.at_
  have h1 := (List.getElem?_eq_some_iff.mp hc).1
  have h2 := hf.length
  omega
noncomputable def ParseOk (n v : Str) (x : FV) : Prop :=
 if (n == oS "data") = true then Txt.startswith v (oS "(") = true /\ (∀ p ∈ dataIn v, (∃ i, PySem.intText? p = some i) /\ p.length <= 640) /\ (dataIn v).length <= 999 /\ x = .lst ((dataIn v).map numIn)
 else ∃ i, PySem.intText? v = some i /\ v.length <= 640 /\ x = .int i
noncomputable def ArgOk (arg n : Str) (x : FV) : Prop := ∃ v, arg = n ++ (oS "=" ++ v) /\ 61 ∉ n.cps.toList /\ v.length <= 9999 /\ n.length <= 99 /\ ParseOk n v x
inductive ArgsOk : List Str -> FD -> Prop
 | nil : ArgsOk [] []
 | cons {arg n : Str} {x : FV} {args : List Str} {M : FD} : ArgOk arg n x -> ArgsOk args M -> ArgsOk (arg :: args) ((n, x) :: M)
theorem ArgsOk.len {args : List Str} {M : FD} (h : ArgsOk args M) : args.length = M.length := by
 induction h with
 | nil => rfl
 | cons _ _ ih => simp [ih]
theorem ArgsOk.at {args : List Str} {M : FD} (h : ArgsOk args M) : ∀ {i : Nat} {arg : Str}, args[i]? = some arg -> ∃ n x, M[i]? = some (n, x) /\ ArgOk arg n x := by
 induction h with
 | nil => intro i arg h; simp at h
 | cons a _ ih =>
  intro i arg h
  cases i with
  | zero => exact ⟨_, _, rfl, by rw [<- Option.some.inj (show some _ = some arg from h)]; exact a⟩
  | succ i => exact ih (by simpa using h)
theorem dPut_len (D : FD) (k : Str) (x : FV) : (dPut D k x).length <= D.length + 1 := by
 unfold dPut
 split
 ·rw [List.length_map]; omega
 ·rw [List.length_append]; exact Nat.le_refl _
theorem dMerge_len (M : FD) : ∀ D : FD, (dMerge D M).length <= D.length + M.length := by
 induction M with
 | nil => intro D; exact Nat.le_refl _
 | cons p M ih =>
  intro D
  have h1 := ih (dPut D p.1 p.2)
  have h2 := dPut_len D p.1 p.2
  show (dMerge (dPut D p.1 p.2) M).length <= _
  rw [List.length_cons]; omega
theorem dMerge_snoc (D M : FD) (k : Str) (x : FV) : dMerge D (M ++ [(k, x)]) = dPut (dMerge D M) k x := by
 unfold dMerge; rw [List.foldl_append]; rfl
theorem dMerge_take {M : FD} {i : Nat} {k : Str} {x : FV} (h : M[i]? = some (k, x)) : dPut (dMerge [] (M.take i)) k x = dMerge [] (M.take (i + 1)) := by
 rw [List.take_add_one, h]; exact (dMerge_snoc [] (M.take i) k x).symm
theorem eq_sign : oS "=" = ⟨#[61]⟩ := by decide +kernel
theorem arg_split {n v : Str} (h : 61 ∉ n.cps.toList) : Txt.splitMax (n ++ (oS "=" ++ v)) (oS "=") 1 = [n, v] := by rw [eq_sign]; exact splitMax_first h (by decide)
noncomputable def S2Led (d : Addr) (c : Obj × List (Addr × Obj)) : List (Addr × Obj) := (d, c.1) :: c.2
noncomputable def S2Inv (w : World) (ty : Str) (M : FD) (tt : Tok) (d : Addr) (news : List (Addr × Obj)) (gs : Array GenState) (i : Nat) (c : Obj × List (Addr × Obj)) (m : Str -> Option Value) (g : Array GenState) : Prop :=
 g = gs /\ DictIs rW.prog w c.2 d c.1 (dMerge [] (M.take i)) /\ (∀ p ∈ c.2, plainO p.2 /\ p.1 ≠ d /\ ∀ q ∈ news, q.1 ≠ p.1) /\
  m (oS "type_") = some (.str ty tt) /\ m (oS "msg") = some (.ref d)
noncomputable def NoKind (ty : Str) : Prop := ∀ P : Params, nsIn (KK P) 29 ty = some none
theorem make_msgdict_bad (w : World) (news : List (Addr × Obj)) {ty : Str} {t : Tok} {v : Value} (hn : NoKind ty) : GivesX w 93 1 3 [.str ty t, v] [] news "LookupError" := by
 refine enterX 0 0 [(oS "type_", .str ty t), (oS "overrides", v)] (fun A base outer g L s m R' a F hm' N ok => ?_)
 have e1 := hm' _ (.head _)
 clear hm'
 dsimp only at e1
 obtain ⟨es, n, sl, sk, _⟩ := specs_lk w.params
 have G := fun {h m} (F : Fr g L h m) => a.at_.gl.keeps F.keep
 refine st_if (EvT.kIn F a.at_.K sl sk (hn w.params) (by decide) (Ev.nmS F e1) (Ev.glob (G F) (by k_is))) (fun tk hb => nomatch hb) (fun tk _ => ?_)
 exact st_raise PySem.F.excCall_LookupError PySem.F.excRaise_LookupError a ok (fun q hq => hq) F N (by k_is) PyProof.Rows.Boot.«LookupError» (by decide) (evL_mono (EvL.one Ev.str) fun vs ⟨_, h, _⟩ => by rw [h]; rfl)
theorem two_of {x : Str} {n v : Str} (h : Txt.splitMax x (oS "=") 1 = [n, v]) : ∀ vs, StrsAre vs (Txt.splitMax x (oS "=") 1) -> ∃ vA vB, vs = [vA, vB] := by
 intro vs hs
 rw [h] at hs
 cases hs with
 | cons _ _ hs => cases hs with
  | cons _ _ hs => cases hs; exact ⟨_, _, rfl⟩
theorem two_are {vA vB : Value} {n v : Str} (h : StrsAre [vA, vB] [n, v]) : IsS n vA /\ IsS v vB := by
 cases h with
 | cons _ t h => cases h with
  | cons _ t2 _ => exact ⟨⟨t, rfl⟩, ⟨t2, rfl⟩⟩
theorem str2msg_G (w : World) (news : List (Addr × Obj)) {ty : Str} {k : Nat} (hty : (ty = kname k /\ k < 18) ∨ NoKind ty) {x : Str} {t : Tok} {args : List Str} {M : FD} (hw : Txt.words x = ty :: args) (hx : x.length <= 999999) (ha : ArgsOk args M) (hz : M.length <= 20) :
  GivesB w 251 2 6 [.str x t] [] news (fun r new => (ty = kname k /\ k < 18) /\ ∃ (d : Addr) (o : Obj) (T : List (Addr × Obj)), r = .ref d /\ new = (d, o) :: T /\ DictIs rW.prog w (T86 w ++ T) d o (dMerge (mkD k) (dMerge [] M)) /\ (∀ p ∈ T, p.1 ≠ d)) (NoKind ty) "LookupError" := by
 refine entrB 1 3 [(oS "text", .str x t)] (fun A base outer g L s m R' ax F hm N ok => ?_)
 have a := ax.at_
 have e1 := hm _ (.head _)
 clear hm
 dsimp only at e1
 have G := fun {h m} (F : Fr g L h m) => a.gl.keeps F.keep
 refine st_assignN rfl F N (EvN.split0 (EvN.mono (EvN.of fun h F N => Ev.nmS F e1) fun v new h => h.1) hx) ?_
 intro y81 y82 h1 tk1 y83
 apply ab4 y81 y82 h1 tk1; intro T9 e9
 obtain ⟨wa, wvs, wn, new0, rfl, rfl, hws⟩ := y83
 subst e9
 intro l1 F1 N1
 rw [hw] at hws
 have hwz : wvs.length <= 21 := by rw [strs_len hws, List.length_cons, ha.len]; omega
 cases hws with
 | cons _ tt hws =>
 rename_i avs
 have N1' : News g L h1 ((wa, listOf (Value.str (ty) tt :: avs).toArray wn) :: news) := fun p hp => by
  rcases zC.mp hp with rfl | hp
  ·exact N1 _ (.head _)
  ·exact N1 p (zR _ hp)
 have hwa : ∀ q ∈ news, q.1 ≠ wa := fun q hq => l1 q hq _ (.head _)
 clear F N N1 l1
 refine st_assign F1 N1' (Ev.lstI (j := 0) (Ev.nm F1 rfl) Ev.int (N1'.isList (.head _)) rfl) ?_
 rintro _ h2 tk2 rfl F2 N2
 clear F1 N1'
 refine st_assignN rfl F2 N2 (EvN.sliceFrom (i := 1) (fun h F => Ev.nm F rfl) (fun h F N => N.isList (.head _)) (fun h F => Ev.int) (by omega)) ?_
 intro y81 y82 h3 tk3 y83
 apply ab4 y81 y82 h3 tk3; intro T9 e9
 obtain ⟨aa, avs', an, new1, rfl, rfl, havs⟩ := y83
 subst e9
 intro l3 F3 N3
 rw [show avs' = avs from havs] at N3 l3
 have N3' : News g L h3 ((aa, listOf avs.toArray an) :: news) := fun p hp => by
  rcases zC.mp hp with rfl | hp
  ·exact N3 _ (.head _)
  ·exact N3 p (zR _ (.tail _ hp))
 have haa : ∀ q ∈ news, q.1 ≠ aa := fun q hq => l3 q (.tail _ hq) _ (.head _)
 clear F2 N2 N3 l3
 refine st_assignN rfl F3 N3' (EvN.dict a) ?_
 intro y81 y82 h4 tk4 y83
 apply ab4 y81 y82 h4 tk4; intro T9 e9
 obtain ⟨d, o1, hd, rfl, rfl⟩ := y83
 subst e9
 intro l4 F4 N4
 have hab : ∀ q ∈ (aa, listOf avs.toArray an) :: news, q.1 ≠ d := fun q hq => l4 q hq _ (.head _)
 clear F3 N3' l4
 refine st_for (σ := Obj × List (Addr × Obj)) false (Ev.nm F4 rfl) a.hh (S2Led d) (S2Inv w ty M tt d news s.gens) (o1, []) [d] ((aa, listOf avs.toArray an) :: news) rfl rfl F4 N4
  (fun q hq hq' => hab q hq (zS.mp hq')) (fun b hb => by rw [zS.mp hb]; exact ⟨_, .head _⟩) (.inr (.head _)) ⟨rfl, hd [], fun p hp => (nomatch hp), rfl, rfl⟩ ?_ ?_ ?_ passes_body
 ·intro i y81 m g y82
  apply ab3 i m g; intro T9 e9
  obtain ⟨o, T⟩ := y81
  obtain ⟨_, hd, hT, _⟩ := y82
  subst e9
  intro p hp
  rcases zC.mp hp with rfl | hp
  ·exact hd.plain
  ·exact (hT p hp).1
 ·clear F4 N4 hd e1
  intro i y81 m2 h gs tk rest v hv y82 hr hs F N
  obtain ⟨o2, T2⟩ := y81
  obtain ⟨rfl, hd, hT, e1, e2⟩ := y82
  dsimp only at hd hT
  have N : News g L h ((d, o2) :: (T2 ++ rest)) := N
  obtain ⟨arg, ta, rfl, harg⟩ := strs_get hws hv
  obtain ⟨n, xv, hM, vt, rfl, h61, hvl, hnl, hpo⟩ := ha.at harg
  have hput := dMerge_take hM
  have hlen : (dMerge [] (M.take i)).length <= 99 := by
   have := dMerge_len (M.take i) []
   rw [List.length_take] at this
   simp only [List.length_nil] at this
   omega
  have hin : ∀ q ∈ T2 ++ rest, q.1 ≠ d := fun q hq => (zA.mp hq).elim (fun x => (hT _ x).2.1) (fun x e => hr _ x (zS.mpr e))
  have hrd : ∀ q ∈ rest, q.1 ≠ d := fun q hq => hin q (zR _ hq)
  have hsn : ∀ q ∈ news, q ∈ rest := fun q hq => hs q (.tail _ hq)
  have fin : ∀ (h' : Heap) (o' : Obj) (tk' : Nat) (m' : Str -> Option Value) (T' R' : List (Addr × Obj)), Fr g L h' m' -> News g L h' ((d, o') :: (T' ++ R')) -> (∀ q ∈ rest, q ∈ R') -> (∀ q ∈ R', q.1 ≠ d) ->
    DictIs rW.prog w T' d o' (dPut (dMerge [] (M.take i)) n xv) -> (∀ p ∈ T', plainO p.2 /\ p.1 ≠ d /\ ∀ q ∈ news, q.1 ≠ p.1) -> m' (oS "type_") = some (.str (ty) tt) -> m' (oS "msg") = some (.ref d) -> ForEnd g L s (S2Led d) (S2Inv w ty M tt d news s.gens) [d] i rest (St s h' tk') := by
   intro h' o' tk' m' T' R' F' N' hR1 hR2 hd' hT' e1' e2'
   rw [hput] at hd'
   exact ⟨(o', T'), m', h', _, tk', R', rfl, F', N', hR1, fun q hq e => hR2 q hq (zS.mp e), rfl, hd', hT', e1', e2'⟩
  have hal : (n ++ (oS "=" ++ vt)).length <= 99999 := by rw [len_append, len_append]; show _ + (1 + _) <= _; omega
  refine st_unpack2 a.hh rfl F N (EvN.splitMax (fun h F => Ev.nmS F rfl) (fun h F => Ev.str) (fun h F => Ev.int) (by decide +kernel) (by omega)) (two_of (arg_split h61)) ?_
  intro vA vB h5 tk5 hvv F5 N5
  rw [arg_split h61] at hvv
  obtain ⟨⟨t1, rfl⟩, ⟨t2, rfl⟩⟩ := two_are hvv
  clear F N
  have a1 := a.less (D' := 1) (U' := 3) (by decide) (by decide)
  refine st_if (EvT.eqS (Ev.nmS F5 rfl) Ev.str) (fun tk6 b0 => ?_) (fun tk6 b0 => ?_)
  ·have hnd : (n == oS "data") = false := by rw [eq_of_beq b0]; decide +kernel
   rw [ParseOk, if_neg (ne_true_of_eq_false hnd)] at hpo
   obtain ⟨j, hj, hj6, rfl⟩ := hpo
   refine st_assignN rfl F5 N5 (EvN.fn (RN := fun v new => IsI j v /\ new = []) a1 (fun h F N => Ev.glob (G F) (by k_is)) (by k_is) (fun h F N => EvL.one (Ev.nmS F rfl)) (fun vs hvs => by obtain ⟨_, rfl, u, rfl⟩ := hvs; exact parse_time w _ hj hj6)) ?_
   intro y81 y82 h6 tk6 y83
   apply ab4 y81 y82 h6 tk6; intro T9 e9
   obtain ⟨⟨t6, rfl⟩, rfl⟩ := y83
   subst e9
   intro l6 F6 N6
   exact st_nil (st_itemI F6 N6 (Ev.nmI F6 rfl) (Ev.nm F6 e2) (Ev.nmS F6 rfl) (.head hin) hd hlen fun h7 o7 tk7 F7 N7 hd7 => st_nil (fin h7 o7 tk7 _ T2 rest F7 N7 (fun _ => id) hrd hd7 hT e1 e2))
  refine st_if1 (EvT.eqS (Ev.nmS F5 rfl) Ev.str) (fun tk6 b1 => ?_) (fun tk6 b1 => ?_)
  ·rw [ParseOk, if_pos b1] at hpo
   obtain ⟨hp1, hp2, hp3, rfl⟩ := hpo
   refine st_assignN rfl F5 N5 (EvN.fn (RN := fun v new => ∃ (a : Addr) (vs : List Value) (n : Nat), v = .ref a /\ new = [(a, listOf vs.toArray n)] /\ IntsAre vs ((dataIn vt).map numIn)) a1 (fun h F N => Ev.glob (G F) (by k_is)) (by k_is) (fun h F N => EvL.one (Ev.nmS F rfl)) (fun vs hvs => by obtain ⟨_, rfl, u, rfl⟩ := hvs; exact parse_data w _ hp1 hvl hp2 hp3)) ?_
   intro y81 y82 h6 tk6 y83
   apply ab4 y81 y82 h6 tk6; intro T9 e9
   obtain ⟨c, cvs, cn, rfl, rfl, hci⟩ := y83
   subst e9
   intro l6 F6 N6
   refine st_nil ?_
   have hc := l6 (d, o2) (.head _) _ (.head _)
   refine st_item (R := (· = .ref c)) (T := (c, listOf cvs.toArray cn) :: T2) F6 N6 (Ev.nm F6 rfl) (Ev.nm F6 e2) (Ev.nmS F6 rfl) (.tail (Ne.symm hc) (.head hin)) (hd.mono fun _ => .tail _) (by rintro _ rfl; exact .lst (.head _) hci) hlen fun h7 o7 tk7 F7 N7 hd7 => ?_
   refine st_nil (fin h7 o7 tk7 _ ((c, listOf cvs.toArray cn) :: T2) rest F7 (fun p hp => N7 p ?_) (fun _ => id) hrd hd7 (fun p hp => ?_) e1 e2)
   ·rcases zC.mp hp with rfl | hp
    ·exact .tail _ (.head _)
    ·rcases zC.mp hp with rfl | hp
     ·exact .head _
     ·exact .tail _ (.tail _ hp)
   ·rcases zC.mp hp with rfl | hp
    ·exact ⟨⟨by show Value.type "list" ≠ _; decide, by show Value.type "list" ≠ _; decide⟩, Ne.symm hc, fun q hq => l6 q (.tail _ (zR _ (hsn q hq))) _ (.head _)⟩
    ·exact hT p hp
  ·rw [ParseOk, if_neg (ne_true_of_eq_false b1)] at hpo
   obtain ⟨j, hj, hj6, rfl⟩ := hpo
   refine st_assign F5 N5 (Ev.intOf (G F5) (Ev.nmS F5 rfl) hj hj6) ?_
   intro y81 h6 tk6 y82
   apply ab3 y81 h6 tk6; intro T9 e9
   obtain ⟨t6, rfl⟩ := y82
   subst e9
   intro F6 N6
   exact st_nil (st_itemI F6 N6 (Ev.nmI F6 rfl) (Ev.nm F6 e2) (Ev.nmS F6 rfl) (.head hin) hd hlen fun h7 o7 tk7 F7 N7 hd7 => st_nil (fin h7 o7 tk7 _ T2 rest F7 N7 (fun _ => id) hrd hd7 hT e1 e2))
 ·intro y81 m2 h g' tk y82
  apply ab4 m2 h g' tk; intro T9 e9
  obtain ⟨o2, T2⟩ := y81
  obtain ⟨rfl, hd, hT, e1, e2⟩ := y82
  subst e9
  intro F N
  dsimp only at hd hT N
  have hall : M.take avs.length = M := List.take_of_length_le (by rw [strs_len hws, ha.len]; exact Nat.le_refl _)
  rw [hall] at hd
  have N : News g L h ((d, o2) :: (T2 ++ news)) := fun p hp => N p (by
   rcases zC.mp hp with rfl | hp
   ·exact .head _
   ·rcases zA.mp hp with hp | hp
    ·exact .tail _ (zL _ hp)
    ·exact .tail _ (zR _ (.tail _ hp)))
  have hOV : (dMerge [] M).length <= 20 := by have := dMerge_len M []; simp only [List.length_nil] at this; omega
  rcases hty with ⟨rfl, hk⟩ | hno
  case inr =>
   exact st_retX F N (EvX.fn (ax.less (D' := 1) (U' := 3) (by decide) (by decide)) (fun h F N => Ev.glob (G F) (by k_is)) (by k_is) (fun h F N => EvL.cons (Ev.nmS F e1) (EvL.one (Ev.nm F e2) rfl)) (fun vs hvs => by
    obtain ⟨_, _, rfl, ⟨u, rfl⟩, _, rfl, rfl⟩ := hvs
    exact make_msgdict_bad w _ hno)) (takes_body (ax.less (D' := 1) (U' := 3) (by decide) (by decide)) (ok hno) fun q hq => .tail _ (zR _ hq))
  refine st_retN F N (EvN.fn (a.less (D' := 1) (U' := 3) (by decide) (by decide)) (fun h F N => Ev.glob (G F) (by k_is)) (by k_is) (fun h F N => EvL.cons (Ev.nmS F e1) (EvL.one (Ev.nm F e2) rfl)) (fun vs hvs => by
   obtain ⟨_, _, rfl, ⟨u, rfl⟩, _, rfl, rfl⟩ := hvs
   exact make_msgdict w _ hk (.head _) hd hOV)) ?_
  intro y81 y82 h6 tk6 y83
  apply ab4 y81 y82 h6 tk6; intro T9 e9
  obtain ⟨d2, o3, rfl, rfl, hd3⟩ := y83
  subst e9
  intro l6 F6 N6
  refine ⟨(d2, o3) :: T2, h6, tk6, m2, rfl, F6, fun p hp => N6 p ?_, fun q hq x hx => ?_, ⟨rfl, hk⟩, d2, o3, T2, rfl, rfl, hd3, fun p hp => l6 p (.tail _ (zL _ hp)) _ (.head _)⟩
  ·rcases zA.mp hp with hp | hp
   ·rcases zC.mp hp with rfl | hp
    ·exact .head _
    ·exact .tail _ (.tail _ (zL _ hp))
   ·exact .tail _ (.tail _ (zR _ hp))
  ·rcases zC.mp hx with rfl | hx
   ·exact l6 q (.tail _ (zR _ hq)) _ (.head _)
   ·exact (hT x hx).2.2 q hq
section
variable {prog : Program} {w : World} {A : Around} {env : Env} {h hZ : Heap} {L : Addr} {m : Str -> Option Value} {news : List (Addr × Obj)} {e eAZ eB : Expr} {R : Value -> Prop} {y : Str} {pos pA pB pC : Pos} {k0 : Nat} {s : Shared} {Q : Flow -> Shared -> Prop} {E : Value -> Shared -> Prop} {rest : List Stmt} {T : List (Addr × Obj)} {D : FD}
theorem st_assignPop {pl : Sem Bool} {d : Addr} {o : Obj} {kx : Str} {xv : FV} {dv : Value} {g : Obj -> List (Addr × Obj)} (hL : env.locals = L) (F : Fr hZ L s.heap m) (N : News hZ L s.heap news) (ho : Ev (model prog w) A env s.heap e (· = .ref d)) (h1 : Ev (model prog w) A env s.heap eAZ (IsS kx)) (h2 : Ev (model prog w) A env s.heap eB (· = dv))
  (U : UpdF d o news g) (hm : (d, o) ∈ news) (hD : DictIs prog w T d o D) (hl : dAt D kx = some xv) (hz : D.length <= 99)
  (hr : ∀ v h' o' tk, VIn T v xv -> DictIs prog w T d o' (dDel D kx) -> Fr hZ L h' (mput m y v) -> News hZ L h' (g o') -> wpAny (model prog w) A (execs rest env) Q E (St s h' tk))
  (hs : autoParam (starEach [eAZ, eB] env = (false, eval eAZ env) :: starEach [eB] env) tA0) (hs2 : autoParam (starEach [eB] env = (false, eval eB env) :: starEach [] env) tA0) (hnn : autoParam (((backTo pB (starEach [eB] env)).any fun x => x.1) = false) tA0)
  (hc : autoParam (eval (.Call (.Attribute e (oS "pop") pA) [eAZ, eB] [] pB) env = (do
   let ov <- eval e env
   standAt pA.atName
   let (f, first) <- holding [ov] (getMethod ov (oS "pop") pl)
   callWith pB f first (backTo pB (starEach [eAZ, eB] env)) [])) tA0)
  (hx : autoParam (env.kindOf y = some .local) tA0) (hp : autoParam ((env.scope.kind == .class || (env.scope.kind == .module && env.locals != env.globals)) = false) tA0) (hsw : autoParam (swapsWith (.Call (.Attribute e (oS "pop") pA) [eAZ, eB] [] pB) (some (.Name y pC)) pos.line env = pure false) tA0) :
  wpAny (model prog w) A (execs (.Assign [.Name y pC] (.Call (.Attribute e (oS "pop") pA) [eAZ, eB] [] pB) pos :: rest) env) Q E s := by
 subst hL
 refine wpAny_execs_cons (wpAny_Assign_Name (MethodCall_ (ho s _ E rfl fun v tk hv => ?_) hc) hsw)
 subst hv
 obtain ⟨lo, kvs, hd, hf⟩ := hD
 refine kob_method PySem.F.slot_dict_pop PySem.F.type_dict_pop N hm hd ?_
 refine PyProof.Rows.callWith_method1 (spliced_more (h1 (Tk s tk) _ E rfl fun v1 tk1 hv1 => spliced_more (h2 (Tk s tk1) _ E rfl fun v2 tk2 hv2 => spliced_none ?_) hs2) hs) hs hnn
 obtain ⟨t1, rfl⟩ := hv1
 obtain ⟨v, hv, hi⟩ := hf.at hl
 refine kob_pop (s := (Tk s tk2)) (more := [v2]) F N U hd (strKind_is _ _ _ _) (.inr ⟨_, rfl⟩) rfl (PySem.F.args_dict_pop_3 _ _ _) hv (by rw [hf.length, sizeLine_eq]; omega) fun h1 o1 F1 N1 hd1 => ?_
 exact wpAny_storeName_local hx F1.ns (fun h' hn hs => hr v h' o1 _ hi ⟨lo, _, hd1, hf.without⟩ (F1.set hn hs) (N1.set hs)) hp
theorem EvN.tupleV {ns : List Int} {D' U' : Nat} (a : At w A env hZ L D' U') (he : ∀ h, Fr hZ L h m -> News hZ L h news -> Ev (model prog w) A env h e (fun v => VIn T v (.lst ns) ∨ VIn T v (.tup ns))) (hT : TOk w T news) (hz : ns.length <= 99)
  (hg : autoParam (env.globals = mainGlobals) tA0) (hbl : autoParam (env.builtins = builtinsNs) tA0) (hk : autoParam (env.scope.kind = .function) tA0) (hx : autoParam (env.kindOf (oS "tuple") = some .globalImplicit) tA0)
  (hs : autoParam (starEach [e] env = (false, eval e env) :: starEach [] env) tA0) (hn : autoParam (((backTo pos (starEach [] env)).any fun x => x.1) = false) tA0)
  (hc : autoParam (eval (.Call (.Name (oS "tuple") pA) [e] [] pos) env = (do let f <- eval (.Name (oS "tuple") pA) env; callWith pos f [] (backTo pos (starEach [e] env)) (backToKw pos (keywordEach [] env)))) tA0) :
  EvN (model prog w) A env hZ L m news (.Call (.Name (oS "tuple") pA) [e] [] pos) (fun v new => VIn (new ++ T) v (.tup ns) /\ new.length <= 1 /\ ∀ p ∈ new, plainO p.2) := fun s Q E F N hq => by
 have gtup : nsIn (KK w.params) mainGlobals (oS "tuple") = some Option.none := by with_unfolding_all rfl
 refine Call_ (Ev.built (a.gl.keeps F.keep) gtup (by rfl) (by decide) hg hbl hk hx (by decide) s _ E rfl fun v tk hv => ?_) hc
 subst hv
 refine PyProof.Rows.callWith_type1 (spliced_more (he _ F N (Tk s tk) _ E rfl fun v tk' hv => spliced_none ?_) hs) hs hn
 rcases hv with hv | hv
 ·cases hv with
  | @lst b vs n _ hm hi =>
   refine kde_tupleOf (s := (Tk s tk')) F N ⟨_, hT.get a F N _ hm, rfl, _, rfl⟩ (by rw [List.size_toArray, hi.length]; omega) rfl fun D h' F' N' l => hq _ [(D, _)] h' tk' ⟨.tup (n := 0) (.head _) hi, Nat.le_refl _, fun p hp => ?_⟩ (fun q hq x hx => ?_) F' N'
   ·rw [zS.mp hp]; exact ⟨by show Value.type "tuple" ≠ _; decide, by show Value.type "tuple" ≠ _; decide⟩
   ·rw [zS.mp hx]; exact Nat.ne_of_lt (l q hq)
 ·have hv' := hv
  cases hv with
  | @tup b vs n _ hm hi =>
   exact call_tuple_same (s := (Tk s tk')) ⟨_, hT.get a F N _ hm, rfl, _, rfl⟩ (hq _ [] s.heap tk' ⟨hv', Nat.zero_le _, fun p hp => nomatch hp⟩ (fun _ _ _ hx => nomatch hx) F N)
end
theorem updF_upd {d : Addr} {o o' : Obj} {l : List (Addr × Obj)} {g : Obj -> List (Addr × Obj)} (U : UpdF d o l g) : Upd d o o' l (g o') := by
 induction U with
 | head h => exact .head h
 | tail h _ ih => exact .tail h ih
noncomputable def fldObj (w : World) (t : Tok) (d : Addr) : Obj := dictOf [⟨kH w.params (oS "fields"), .str (oS "fields") t, .ref d⟩] 1
section
variable {w : World} {A : Around} {env : Env} {h hZ : Heap} {L : Addr} {m : Str -> Option Value} {news : List (Addr × Obj)} {e eAZ eB : Expr} {pos pA : Pos} {s : Shared} {Q : Flow -> Shared -> Prop} {E : Value -> Shared -> Prop} {rest : List Stmt}
theorem st_setFields {x dx d : Addr} {g : Obj -> List (Addr × Obj)} (XZ : (KK w.params).In hZ) (F : Fr hZ L s.heap m) (N : News hZ L s.heap news) (hx : (x, instObj 418 dx) ∈ news) (hdx : (dx, dictOf [] 0) ∈ news) (ho : Ev (model rW.prog w) A env s.heap eAZ (· = .ref x)) (hv : Ev (model rW.prog w) A env s.heap e (· = .ref d))
  (U : UpdF dx (dictOf [] 0) news g)
  (hr : ∀ h' t tk, Fr hZ L h' m -> News hZ L h' (g (fldObj w t d)) -> wpAny (model rW.prog w) A (execs rest env) Q E (St s h' tk))
  (hs : autoParam (swapsWith e (some (.Attribute eAZ (oS "fields") pA)) pos.line env = pure false) tA0) :
  wpAny (model rW.prog w) A (execs (.Assign [.Attribute eAZ (oS "fields") pA] e pos :: rest) env) Q E s := by
 refine wpAny_execs_cons (plainObj_wpAny_Assign_Attribute (hv s _ E rfl fun v tk hvv => ho (Tk s tk) _ E rfl fun ov tk2 hov => ?_) hs)
 subst hvv
 subst hov
 refine set_dict (s := (Tk s tk2)) (C := 418) (n := 0) (es := []) F XZ N (InstAt.of_news N hx hdx) rfl ?_ ?_ ?_ ?_ rfl rfl (updF_upd U) (Nat.le_of_ble_eq_true rfl) fun h' F' N' => hr h' _ _ F' N'
 all_goals k_is
theorem Ev.fields {x dx d : Addr} {t : Tok} (XZ : (KK w.params).In hZ) (F : Fr hZ L h m) (N : News hZ L h news) (hx : (x, instObj 418 dx) ∈ news) (hdx : (dx, fldObj w t d) ∈ news) (ho : Ev (model rW.prog w) A env h e (· = .ref x))
  (hc : autoParam (eval (.Attribute e (oS "fields") pA) env = (do
   let o <- eval e env
   standAt pA.atName
   let r <- holding [o] (getAttr o (oS "fields") true)
   letTemporaryGo e o r
   pure r)) tA0) (ht : autoParam (∀ r, letTemporaryGo e (.ref x) r = pure ()) tA4) : Ev (model rW.prog w) A env h (.Attribute e (oS "fields") pA) (· = .ref d) := fun s Q E hs hq => by
 rw [hc]
 refine wpAny_bind (ho s _ E hs fun v tk hv => wpAny_bind (wpAny_standAt (wpAny_bind (wpAny_holding ?_))))
 subst hv
 subst hs
 refine get_own (s := (Tk s tk)) (C := 418) (attr := Option.none) F XZ (InstAt.of_news N hx hdx) ?_ ?_ ?_ rfl (by rfl) rfl ?_
 ·k_is
 ·k_is
 ·k_is
 ·rw [ht]
  exact wpAny_bind (wpAny_pure (wpAny_pure (hq _ _ rfl)))
end
theorem enterInit {w : World} {news : List (Addr × Obj)} {x : Addr} {kvs : List (Str × Value)} (hf : FreeKw kvs) (hz : kvs.length <= 900) (hn : (kvs.map (·.1)).Nodup) (D U : Nat) {A : Around} {env : Env} {outer : List Env} {hZ base : Heap} {L : Addr} {m : Str -> Option Value} {s : Shared} {R : Result -> Shared -> Prop} {A₀ : Around}
  {name qual : Str} {params : Arguments} {body : List Stmt} {scope : Scope} {dV kV doc pm cdv ct oc : Value} {an od : Option Addr} {osl : Array (Option Value)}
  (a : At w A env hZ L (D + 1) (U + 3)) (B : Below A₀ base outer hZ) (hA : A.frames = some (env :: outer))
  (bxx : ∀ (env' : Env) (g : Heap), Below A base (env :: outer) g -> ∃ base' outer', (A.deeper env').frames = some (env' :: outer') /\ base'.StaysIn g /\ g.FunFrames base' outer' /\ (KK w.params).In base' /\ (∃ p loose mean mg mb, Top p loose mean mg mb base') /\ 1 <= (A.deeper env').depth /\ 3 <= (A.deeper env').units) (F : Fr hZ L s.heap m) (N : News hZ L s.heap news)
  (hb : ∀ (d : Addr) (o : Obj) (g : Heap) (L' : Addr) (hAZ : Heap) (tk : Nat), (∀ q ∈ news, q.1 < d) -> (d == sysModules) = false -> o.IsDictOf (strKind rW.prog w) kvs -> Fr hZ L g m -> At w (A.deeper (envOf qual scope L' 357 cdv)) (envOf qual scope L' 357 cdv) g L' D U -> Below A base (env :: outer) g ->
   Fr g L' hAZ (fun y => ([(oS "self", Value.ref x), (oS "kind", .none), (oS "skip_checks", .bool false)] ++ [(oS "args", Value.ref d)]).reverse.lookup y) -> News g L' hAZ ((d, o) :: news) ->
   wpAny (model rW.prog w) (A.deeper (envOf qual scope L' 357 cdv)) (execs body (envOf qual scope L' 357 cdv)) (fun fl s' => LeaveK hZ L m g R (match fl with | .ret v => v | _ => .none) s')
    (EBody (model rW.prog w) (A.deeper (envOf qual scope L' 357 cdv)) (envOf qual scope L' 357 cdv) (fun e s'' => R (.error e) s'')) (St s hAZ tk))
  (ho : autoParam ((KK w.params).lookup 357 = some ⟨oc, od, .func (fnOf name qual params body scope dV kV doc pm an cdv ct), osl⟩) tA3) (hcd : autoParam (codeIn (KK w.params) cdv qual = true) tA3)
  (hco : autoParam (scope.isCoroutine = false) tA0) (hgen : autoParam (scope.isGenerator = false) tA0) (hk : autoParam (scope.kind = .function) tA0) (hcell : autoParam (∀ x ∈ scope.names, x.2 ≠ .cell) tA1)
  (hfd : autoParam (fnOf name qual params body scope dV kV doc pm an cdv ct = fdInit) tA0) (hloc : ∀ d : Addr, (([(oS "self", Value.ref x), (oS "kind", .none), (oS "skip_checks", .bool false)] ++ [(oS "args", Value.ref d)]).all fun x => decide (scope.names.lookup x.1 = some .local)) = true := by intro _; exact rfl) :
  codeAny (model rW.prog w) A (.call (.ref 357) ⟨[.ref x], kvs⟩) R s := by
 obtain ⟨p, loose, mean, mg, mb, AA, baseA, outerA, BA, T, hAA⟩ := a.ex
 refine codeAny_call_function (fd := fnOf name qual params body scope dV kV doc pm an cdv ct) (body := body) (by have := a.dp; omega) ((a.K.keeps F.keep) _ _ ho) rfl hco hgen rfl (codeRec_of (a.K.keeps F.keep) hcd) ?_
 obtain ⟨gA, hp, hkA⟩ := init_bind (P := w.params) (S := ⟨rW.prog, w.params⟩) (x := x) hf hz
 rw [<- hfd] at hp
 refine wp_of_peekA (o := dictOf [] 0) F N (a.K.keeps F.keep) rfl _ gA hp fun h' F' N' l => ?_
 rw [hkA]
 refine wpAny_bind (kp_fill kvs { s with heap := h' } [] 0 F' N' (fun p hp => Nat.ne_of_lt (l p hp)) (fun _ he => nomatch he) (fun _ he => nomatch he) hn fun h'' F'' N'' => wpAny_pure ?_)
 refine kp_frame (cl := []) (s := (St s h'' (s.toks + kvs.length))) B F'' N'' T.nolimit hA a.fr a.kd (locs (hloc _)) (fun g L' hAZ FG FL NG BG st => ?_) hcell hk
 exact hb _ _ g L' hAZ _ l (F.notModules (modules_low T.nolimit)) (kp_isDict s.toks (0 + kvs.length) hn) FG
  ⟨⟨p, loose, mean, mg, mb, A, base, env :: outer, BG, T.keeps st, by show (A.frames.map _) = _; rw [hA]; rfl⟩, a.hh, rfl, rfl, hk, a.K.keeps st, by show A.depth + 1 + D < _; have := a.dp; omega, by show A.units + 3 + U < _; have := a.un; omega, bxx _ _ BG⟩ BG FL NG
theorem tc_weight (C : Addr) (rest : List Value) (kw : List (Str × Value)) : (Code.builtin "type.__call__" ⟨.ref C :: rest, kw⟩).weight = 1 := by kernel_rfl
theorem at_tc {w : World} {A : Around} {env : Env} {hZ : Heap} {L C : Addr} {rest : List Value} {kw : List (Str × Value)} {D U : Nat} (a : At w A env hZ L (D + 1) (U + 1)) : At w (A.under (.builtin "type.__call__" ⟨.ref C :: rest, kw⟩)) env hZ L D U := by
 obtain ⟨p, loose, mean, mg, mb, AA, baseA, outerA, BA, T, hAA⟩ := a.ex
 refine ⟨⟨p, loose, mean, mg, mb, AA, baseA, outerA, BA, T, hAA⟩, a.hh, a.fr, a.lo, a.kd, a.K, ?_, ?_, ?_⟩
 ·show A.depth + (Code.builtin "type.__call__" ⟨.ref C :: rest, kw⟩).weight + D < _
  rw [tc_weight]; have := a.dp; omega
 ·show A.units + 1 + U < _
  have := a.un; omega
 ·obtain ⟨b, o, h1, h2, h3, h4, h5, h6, h7⟩ := a.bx
  exact ⟨b, o, h1, h2, h3, h4, h5, Nat.le_add_right_of_le h6, Nat.le_succ_of_le h7⟩
noncomputable def madeD (k : Nat) (D : FD) : FD := dMerge (mkD k) (dDel D (oS "type"))
noncomputable def dataOf (D : FD) : List Int := match dAt D (oS "data") with
 | some (.lst ns) => ns
 | some (.tup ns) => ns
 | _ => []
noncomputable def initD (k : Nat) (D : FD) : FD := if (kname k == oS "sysex") = true then dPut (madeD k D) (oS "data") (.tup (dataOf (madeD k D))) else madeD k D
structure KwOk (k : Nat) (D : FD) : Prop where
 type : dAt D (oS "type") = some (.str (kname k))
 free : ∀ p ∈ D, ([oS "self", oS "kind", oS "skip_checks"].contains p.1) = false
 len : D.length <= 20
 seq : (kname k == oS "sysex") = true -> (dAt (madeD k D) (oS "data") = some (.lst (dataOf (madeD k D))) ∨ dAt (madeD k D) (oS "data") = some (.tup (dataOf (madeD k D)))) /\ (dataOf (madeD k D)).length <= 99
theorem fld_free {T : List (Addr × Obj)} {kvs : List (Str × Value)} {D : FD} (h : Fld T kvs D) (hf : ∀ p ∈ D, ([oS "self", oS "kind", oS "skip_checks"].contains p.1) = false) : FreeKw kvs := by
 intro x hx
 have : x.1 ∈ D.map (·.1) := h.keys ▸ List.mem_map_of_mem hx
 obtain ⟨p, hp, e⟩ := List.mem_map.mp this
 rw [<- e]; exact hf p hp
theorem madeD_len (k : Nat) (hk : k < 18) (D : FD) (hz : D.length <= 20) : (madeD k D).length <= 30 := by
 have h1 := dMerge_len (dDel D (oS "type")) (mkD k)
 have h2 : (dDel D (oS "type")).length <= D.length := List.length_filter_le _ _
 have h3 := (mk_facts hk).2.1
 have h4 : (mkD k).length <= 5 := by rw [mkD, List.length_append, List.length_map]; show 2 + _ <= _; omega
 show (dMerge (mkD k) (dDel D (oS "type"))).length <= _
 omega
theorem updF_append {d : Addr} {o : Obj} {l : List (Addr × Obj)} {g : Obj -> List (Addr × Obj)} (U : UpdF d o l g) : ∀ {new : List (Addr × Obj)}, (∀ x ∈ new, x.1 ≠ d) -> UpdF d o (new ++ l) (fun o' => new ++ g o')
 | [], _ => U
 | _ :: _, h => .tail (h _ (.head _)) (updF_append U fun x hx => h x (.tail _ hx))
noncomputable def MsgPost (w : World) (k : Nat) (D : FD) (T : List (Addr × Obj)) (r : Value) (new : List (Addr × Obj)) : Prop :=
 ∃ (x dx d : Addr) (t : Tok) (o : Obj) (Tn : List (Addr × Obj)), r = .ref x /\ new = (x, instObj 418 dx) :: (dx, fldObj w t d) :: (d, o) :: Tn /\ DictIs rW.prog w (Tn ++ (T86 w ++ T)) d o D /\ x ≠ dx /\ x ≠ d /\ dx ≠ d /\ (∀ p ∈ Tn, plainO p.2 /\ p.1 ≠ x /\ p.1 ≠ dx /\ p.1 ≠ d)
theorem new_msgG (w : World) {k : Nat} (hk : k < 18) {D : FD} {T news : List (Addr × Obj)} {kvs : List (Str × Value)} (hf : Fld T kvs D) (hnd : (kvs.map (·.1)).Nodup) (hkw : KwOk k D) (hok : OkMsg k (initD k D) ∨ ∃ i, BadMsg k (initD k D) i) (hT : TOk w T news)
  {A : Around} {base : Heap} {env : Env} {outer : List Env} {hZ : Heap} {L : Addr} {m : Str -> Option Value} {s : Shared} {Q E : Value -> Shared -> Prop} (ax : AtX w A base env outer hZ L 6 16) (F : Fr hZ L s.heap m) (N : News hZ L s.heap news)
  (hret : OkMsg k (initD k D) -> ∀ r new h' tk', MsgPost w k (initD k D) T r new -> (Ap news new) -> Fr hZ L h' m -> News hZ L h' (new ++ news) -> Q r (St s h' tk'))
  (hbad : (∃ i, BadMsg k (initD k D) i) -> ∀ b h' tk', RaisedX base env outer hZ L m news "ValueError" b h' -> E (.ref b) (St s h' tk')) :
  wpAny (model rW.prog w) A (call (.ref 418) [] kvs) Q E s := by
 have a := ax.at_
 refine call_cls (K := KK w.params) (fI := 357) F a.K N (by k_is) (by k_is) (by k_is) fun x dx h1 F1 N1 l1 lx => ?_
 have ai := at_tc (C := 418) (rest := []) (kw := kvs) a
 have hz : kvs.length <= 20 := by rw [hf.length]; exact hkw.len
 refine enterInit (fld_free hf hkw.free) (by omega) hnd 4 12 ai (A₀ := { A with frames := some outer }) (base := base) (outer := outer) ⟨rfl, ax.bst, ax.bfr⟩ ax.frx (fun env' g B => ⟨base, env :: outer, by show (A.frames.map _) = _; rw [ax.frx]; rfl, B.stays, B.frames, ax.bK, ax.bT, Nat.le_add_left _ _, Nat.le_add_left _ _⟩) (s := { s with heap := h1 }) F1 N1 fun d o g L' h2 tk2 l2 lo hd FG aa BG F2 N2 => ?_
 have e1 : (fun y => ([(oS "self", Value.ref x), (oS "kind", .none), (oS "skip_checks", .bool false)] ++ [(oS "args", Value.ref d)]).reverse.lookup y) (oS "self") = some (.ref x) := by rfl
 have e2 : (fun y => ([(oS "self", Value.ref x), (oS "kind", .none), (oS "skip_checks", .bool false)] ++ [(oS "args", Value.ref d)]).reverse.lookup y) (oS "kind") = some .none := by rfl
 have e3 : (fun y => ([(oS "self", Value.ref x), (oS "kind", .none), (oS "skip_checks", .bool false)] ++ [(oS "args", Value.ref d)]).reverse.lookup y) (oS "skip_checks") = some (.bool false) := by rfl
 have e4 : (fun y => ([(oS "self", Value.ref x), (oS "kind", .none), (oS "skip_checks", .bool false)] ++ [(oS "args", Value.ref d)]).reverse.lookup y) (oS "args") = some (.ref d) := by rfl
 generalize (fun y => ([(oS "self", Value.ref x), (oS "kind", Value.none), (oS "skip_checks", .bool false)] ++ [(oS "args", Value.ref d)]).reverse.lookup y) = m0 at F2 e1 e2 e3 e4
 have hdx : ∀ q ∈ news, q.1 ≠ dx := fun q hq => Nat.ne_of_lt (l1 q hq)
 have hxx : ∀ q ∈ news, q.1 ≠ x := fun q hq => Nat.ne_of_lt (Nat.lt_trans (l1 q hq) lx)
 have hdn : ∀ q ∈ (x, instObj 418 dx) :: (dx, dictOf [] 0) :: news, q.1 ≠ d := fun q hq => Nat.ne_of_lt (l2 q hq)
 have hDd : DictIs rW.prog w T d o D := ⟨lo, kvs, hd, hf⟩
 have hTn : TOk w T ((d, o) :: (x, instObj 418 dx) :: (dx, dictOf [] 0) :: news) := hT.mono fun p hp => .tail _ (.tail _ (.tail _ hp))
 have G := fun {h m} (F : Fr g L' h m) => aa.gl.keeps F.keep
 refine st_assignPop rfl F2 N2 (Ev.nm F2 e4) Ev.str (Ev.nm F2 e2) (.head hdn) (.head _) hDd hkw.type (by have := hkw.len; omega) ?_
 intro v h3 o3 tk3 hv hD3 F3 N3
 obtain ⟨tkind, rfl⟩ := vin_str hv
 clear F2 N2
 have hz3 : (dDel D (oS "type")).length <= 20 := Nat.le_trans (List.length_filter_le _ _) hkw.len
 refine st_assignN rfl F3 N3 (EvN.fn (aa.less (D' := 1) (U' := 3) (by decide) (by decide)) (fun h F N => Ev.glob (G F) (by k_is)) (by k_is) (fun h F N => EvL.cons (Ev.nmS F rfl) (EvL.one (Ev.nm F e4) rfl)) (fun vs hvs => by
  obtain ⟨_, _, rfl, ⟨u, rfl⟩, _, rfl, rfl⟩ := hvs
  exact make_msgdict w _ hk (.head _) hD3 hz3)) ?_
 intro y81 y82 h4 tk4 y83 l4 F4 N4
 obtain ⟨d2, o2, rfl, rfl, hD4⟩ := y83
 have hd2 : ∀ q ∈ (d, o3) :: (x, instObj 418 dx) :: (dx, dictOf [] 0) :: news, q.1 ≠ d2 := fun q hq => l4 q hq _ (.head _)
 clear F3 N3 l4
 have N4 : News g L' h4 ((d2, o2) :: (x, instObj 418 dx) :: (dx, dictOf [] 0) :: news) := fun p hp => N4 p (by
  rcases zC.mp hp with rfl | hp
  ·exact .head _
  ·exact .tail _ (.tail _ hp))
 have hD4 : DictIs rW.prog w (T86 w ++ T) d2 o2 (madeD k D) := hD4
 have hz4 := madeD_len k hk D hkw.len
 have hT4 : TOk w (T86 w ++ T) ((d2, o2) :: (x, instObj 418 dx) :: (dx, dictOf [] 0) :: news) := fun p hp => by
  rcases zA.mp hp with hp | hp
  ·exact .inr (zS.mp hp)
  ·exact (hT p hp).imp (fun q => .tail _ (.tail _ (.tail _ q))) id
 have hd2n : ∀ q ∈ (x, instObj 418 dx) :: (dx, dictOf [] 0) :: news, q.1 ≠ d2 := fun q hq => hd2 q (.tail _ hq)
 refine join_J (fun sB => ∃ h5 tk5 m5 o5 Tn, sB = (St s h5 tk5) /\ Fr g L' h5 m5 /\ News g L' h5 ((d2, o5) :: (Tn ++ ((x, instObj 418 dx) :: (dx, dictOf [] 0) :: news))) /\ DictIs rW.prog w (Tn ++ (T86 w ++ T)) d2 o5 (initD k D) /\
  (∀ p ∈ Tn, plainO p.2 /\ p.1 ≠ d2 /\ ∀ q ∈ (x, instObj 418 dx) :: (dx, dictOf [] 0) :: news, q.1 ≠ p.1) /\ m5 (oS "self") = some (.ref x) /\ m5 (oS "skip_checks") = some (.bool false) /\ m5 (oS "msgdict") = some (.ref d2)) ?_ ?_
 ·refine wpAny_If (EvT.run (EvT.eqS (Ev.nmS F4 rfl) Ev.str) fun tk => ?_)
  split
  ·rename_i b0
   obtain ⟨hs, hsl⟩ := hkw.seq b0
   refine st_itemN (RN := fun v new => VIn (new ++ (T86 w ++ T)) v (.tup (dataOf (madeD k D))) /\ new.length <= 1 /\ ∀ p ∈ new, plainO p.2) rfl F4 N4 (EvN.tupleV aa (fun h F N => ?_) hT4 hsl) (fun h F => Ev.nm F rfl) (fun h F => Ev.str) ?_
   ·rcases hs with hs | hs
    ·exact Ev.mono (Ev.dItem N (.head _) (Ev.nm F rfl) Ev.str hD4 hs) fun v hv => .inl hv
    ·exact Ev.mono (Ev.dItem N (.head _) (Ev.nm F rfl) Ev.str hD4 hs) fun v hv => .inr hv
   ·intro v new h5 tk5 t5 y81 l5 F5 N5
    obtain ⟨hv5, hnl, hpl⟩ := y81
    have N5' : News g L' h5 ((d2, o2) :: (new ++ ((x, instObj 418 dx) :: (dx, dictOf [] 0) :: news))) := fun p hp => N5 p (by
     rcases zC.mp hp with rfl | hp
     ·exact zR _ (.head _)
     ·rcases zA.mp hp with hp | hp
      ·exact zL _ hp
      ·exact zR _ (.tail _ hp))
    have hnd2 : ∀ p ∈ new, p.1 ≠ d2 := fun p hp => Ne.symm (l5 _ (.head _) p hp)
    refine d_set (T := new ++ (T86 w ++ T)) F5 N5' (.head fun q hq => ?_) (hD4.mono fun p hp => zR _ hp) hv5 (by omega) fun h6 o6 F6 N6 hD6 => ?_
    ·rcases zA.mp hq with hq | hq
     ·exact hnd2 q hq
     ·exact hd2n q hq
    ·exact st_nil ⟨rfl, h6, _, _, o6, new, rfl, F6, N6, by rw [initD, if_pos b0]; exact hD6, fun p hp => ⟨hpl p hp, hnd2 p hp, fun q hq => l5 q (.tail _ hq) p hp⟩, e1, e3, rfl⟩
  ·rename_i b0
   exact st_nil ⟨rfl, h4, tk, _, o2, [], rfl, F4, N4, by rw [initD, if_neg b0]; exact hD4, fun p hp => (nomatch hp), e1, e3, rfl⟩
 ·clear F4 N4 hD4 hT4 e1 e2 e3 e4
  rintro sB ⟨h5, tk5, m5, o5, Tn, rfl, F5, N5, hD5, hTn5, e1, e3, e5⟩
  have hT5 : TOk w (Tn ++ (T86 w ++ T)) ((d2, o5) :: (Tn ++ ((x, instObj 418 dx) :: (dx, dictOf [] 0) :: news))) := fun p hp => by
   rcases zA.mp hp with hp | hp
   ·exact .inl (.tail _ (zL _ hp))
   ·rcases zA.mp hp with hp | hp
    ·exact .inr (zS.mp hp)
    ·exact (hT p hp).imp (fun q => .tail _ (zR _ (.tail _ (.tail _ q)))) id
  refine st_if (EvT.not (EvT.bool (Ev.nm F5 e3))) (fun tk _ => ?_) (fun tk b => nomatch b)
  rcases hok with hok | ⟨iZ, hno⟩
  case inr =>
   have aax := AtX.mk aa (by show (A.frames.map _) = _; rw [ax.frx]; rfl) BG.stays BG.frames ax.bK ax.bT (Nat.le_add_left _ _) (Nat.le_add_left _ _)
   exact st_exprX F5 N5 (EvX.fn aax (fun h F N => Ev.glob (G F) (by k_is)) (by k_is) (fun h F N => EvL.one (Ev.nm F e5)) (fun vs hvs => by
    obtain ⟨_, rfl, rfl⟩ := hvs
    exact check_msgdict_bad w _ hk (.head _) hD5 hT5 hno)) (takes_body (newsZ := news) aax (fun b h' tk' t vs hK hu => hbad ⟨iZ, hno⟩ b h' tk' ⟨g, t, vs, FG, hu, hK⟩) fun q hq => .tail _ (zR _ (.tail _ (.tail _ hq))))
  refine st_exprN F5 N5 (EvN.fn (RN := NoneNew) aa (fun h F N => Ev.glob (G F) (by k_is)) (by k_is) (fun h F N => EvL.one (Ev.nm F e5)) (fun vs hvs => by
   obtain ⟨_, rfl, rfl⟩ := hvs
   exact check_msgdict w _ hk (.head _) hD5 hT5 hok)) ?_
  intro y81 y82 h6 tk6 y83 l6 F6 N6
  obtain ⟨rfl, rfl⟩ := y83
  refine st_nil (st_setFields aa.K F6 N6 (.tail _ (zR _ (.head _))) (.tail _ (zR _ (.tail _ (.head _)))) (Ev.nm F6 e1) (Ev.nm F6 e5) (g := fun o' => (d2, o5) :: (Tn ++ ((x, instObj 418 dx) :: (dx, o') :: news))) ?_ ?_)
  ·refine .tail (Ne.symm (hd2n _ (.tail _ (.head _)))) (updF_append (g := fun o' => (x, instObj 418 dx) :: (dx, o') :: news) (.tail (Nat.ne_of_gt lx) (.head fun q hq => hdx q hq)) (fun p hp => Ne.symm ((hTn5 p hp).2.2 _ (.tail _ (.head _)))))
  ·intro h7 t7 tk7 F7 N7
   refine st_nil ⟨L', m5, _, F7, N7, fun kF kN => ⟨rfl, ?_⟩⟩
   refine hret hok (.ref x) ((x, instObj 418 dx) :: (dx, fldObj w t7 d2) :: (d2, o5) :: Tn) h7 tk7 ⟨x, dx, d2, t7, o5, Tn, rfl, rfl, hD5, Nat.ne_of_gt lx, hd2n _ (.head _), hd2n _ (.tail _ (.head _)), fun p hp => ⟨(hTn5 p hp).1, Ne.symm ((hTn5 p hp).2.2 _ (.head _)), Ne.symm ((hTn5 p hp).2.2 _ (.tail _ (.head _))), (hTn5 p hp).2.1⟩⟩ (fun q hq y hy => ?_) kF (fun p hp => kN p ?_)
   ·rcases zC.mp hy with rfl | hy
    ·exact hxx q hq
    ·rcases zC.mp hy with rfl | hy
     ·exact hdx q hq
     ·rcases zC.mp hy with rfl | hy
      ·exact hd2n q (.tail _ (.tail _ hq))
      ·exact (hTn5 y hy).2.2 q (.tail _ (.tail _ hq))
   ·rcases zA.mp hp with hp | hp
    ·rcases zC.mp hp with rfl | hp
     ·exact .tail _ (zR _ (.head _))
     ·rcases zC.mp hp with rfl | hp
      ·exact .tail _ (zR _ (.tail _ (.head _)))
      ·rcases zC.mp hp with rfl | hp
       ·exact .head _
       ·exact .tail _ (zL _ hp)
    ·exact .tail _ (zR _ (.tail _ (.tail _ hp)))
theorem ok_not_bad {k : Nat} {D : FD} (h : OkMsg k D) {i : Nat} (hb : BadMsg k D i) : False := by
 obtain ⟨n, x, h1, h2, _⟩ := hb.at_
 have := (h.each _ (List.mem_of_getElem? h1)).1
 rw [h2] at this; cases this
noncomputable abbrev pg : Program := rW.prog
noncomputable def DctIs (w : World) (news : List (Addr × Obj)) (d : Addr) (D : FD) : Prop := ∃ o T, (d, o) ∈ news /\ DictIs pg w T d o D /\ TOk w T news
noncomputable def MsgIs (w : World) (news : List (Addr × Obj)) (x : Addr) (D : FD) : Prop := ∃ dx d t, (x, instObj 418 dx) ∈ news /\ (dx, fldObj w t d) ∈ news /\ DctIs w news d D
theorem DctIs.mono {w : World} {news news' : List (Addr × Obj)} {d : Addr} {D : FD} (h : DctIs w news d D) (hs : ∀ p ∈ news, p ∈ news') : DctIs w news' d D := by
 obtain ⟨o, T, h1, h2, h3⟩ := h
 exact ⟨o, T, hs _ h1, h2, h3.mono hs⟩
theorem MsgIs.mono {w : World} {news news' : List (Addr × Obj)} {x : Addr} {D : FD} (h : MsgIs w news x D) (hs : ∀ p ∈ news, p ∈ news') : MsgIs w news' x D := by
 obtain ⟨dx, d, t, h1, h2, h3⟩ := h
 exact ⟨dx, d, t, hs _ h1, hs _ h2, h3.mono hs⟩
theorem msg_of_post {w : World} {k : Nat} {D : FD} {T new led : List (Addr × Obj)} {r : Value} (h : MsgPost w k D T r new) (hT : TOk w T led) : ∃ x, r = .ref x /\ MsgIs w (new ++ led) x D := by
 obtain ⟨x, dx, d, t, o, Tn, rfl, rfl, hD, _⟩ := h
 refine ⟨x, rfl, dx, d, t, zL _ (.head _), zL _ (.tail _ (.head _)), o, _, zL _ (.tail _ (.tail _ (.head _))), hD, fun p hp => ?_⟩
 rcases zA.mp hp with hp | hp
 ·exact .inl (zL _ (.tail _ (.tail _ (.tail _ hp))))
 ·rcases zA.mp hp with hp | hp
  ·exact .inr (zS.mp hp)
  ·exact (hT p hp).imp (zR _) id
section
variable {M : Model} {A : Around} {E : Value -> Shared -> Prop} {s : Shared} {K : Frag} {env : Env} {pos : Pos} {f : Value} {Q : Value -> Shared -> Prop}
theorem callWith_kw {kws : List (Option Str × Sem Value)} (hkw : kws.any (·.1.isNone) = true) (hk : keepIn K f = true) (h : wpAny M A (evalArgs f true [] kws) (fun a sA => K.In sA.heap /\ wpAny M A (call f a.pos a.kw) Q E sA) E s) : wpAny M A (callWith pos f [] [] kws) Q E s := by
 refine wpAny_bind (wpAny_holding (wpAny_mono h (fun a sA hAZ => wpAny_bind (wpAny_standAt ?_)) fun _ _ x => x))
 obtain ⟨k, hk', L⟩ := looks_keep (M := M) hk hAZ.1
 rw [hkw]
 refine wpAny_bind (L.here ?_)
 have tail : ∀ {t : Sem Value}, wpAny M A t Q E sA -> wpAny M A (t >>= fun r => holding [r] point >>= fun _ => pure r) Q E sA :=
  fun ht => wpAny_bind (wpAny_mono ht (fun r sB hr => wpAny_bind (wpAny_holding (wpAny_point (wpAny_pure hr)))) fun _ _ x => x)
 have marked (mk : Value) : wpAny M A (callMarked mk f a.pos a.kw) Q E sA := Calls.wpAny_keep hAZ.2
 rcases hk' with rfl | rfl
 ·exact tail (marked _)
 ·exact tail (PyProof.Rows.wpAny_operate' hAZ.2)
end
section
variable {w : World} {A : Around} {env : Env} {h hZ : Heap} {L : Addr} {m : Str -> Option Value} {news : List (Addr × Obj)} {e eAZ eB : Expr} {es : List Expr} {pos pA pB kp : Pos} {s : Shared} {Q : Flow -> Shared -> Prop} {E : Value -> Shared -> Prop} {rest : List Stmt} {D : FD} {k : Nat}
theorem newMsgG {base : Heap} {outer : List Env} {D' U' : Nat} {s : Shared} {Q E : Value -> Shared -> Prop} (ax : AtX w A base env outer hZ L (6 + D') (16 + U')) (hk : k < 18) (F : Fr hZ L s.heap m) (N : News hZ L s.heap news) (h1 : ∀ h, Fr hZ L h m -> News hZ L h news -> Ev (model pg w) A env h eAZ (· = .ref 418))
  (he : ∀ d0 o0, EvN (model pg w) A env hZ L m ((d0, o0) :: news) e (fun v new => ∃ b, v = .ref b /\ DctIs w (new ++ news) b D)) (hkw : KwOk k D) (hok : OkMsg k (initD k D) ∨ ∃ i, BadMsg k (initD k D) i)
  (hq : OkMsg k (initD k D) -> ∀ v new h' tk', (∃ x, v = .ref x /\ MsgIs w (new ++ news) x (initD k D)) -> (Ap news new) -> Fr hZ L h' m -> News hZ L h' (new ++ news) -> Q v (St s h' tk'))
  (hbad : (∃ i, BadMsg k (initD k D) i) -> ∀ b h' tk' news', (∀ q ∈ news, q ∈ news') -> RaisedX base env outer hZ L m news' "ValueError" b h' -> E (.ref b) (St s h' tk'))
  (hc : autoParam (eval (.Call eAZ [] [⟨Option.none, e, kp⟩] pos) env = (do let f <- eval eAZ env; callWith pos f [] (backTo pos (starEach [] env)) (backToKw pos (keywordEach [⟨Option.none, e, kp⟩] env)))) tA0) :
  wpAny (model pg w) A (eval (.Call eAZ [] [⟨Option.none, e, kp⟩] pos) env) Q E s := by
 rw [hc]
 have a := ax.at_
 obtain ⟨p, loose, mean, mg, mb, AA, baseA, outerA, BA, TT, hAA⟩ := a.ex
 refine wpAny_bind (h1 _ F N s _ E rfl fun v tk hv => ?_)
 subst hv
 refine callWith_kw (K := KK w.params) (kws := [(Option.none, _)]) rfl (by k_is) ?_
 refine kw_args (s := (Tk s tk)) F N TT.nolimit fun d0 h1 o0 F1 N1 hlt => ?_
 refine wpAny_bind (he d0 o0 (St s h1 tk) _ E F1 N1 fun v new h2 tk2 hv hl F2 N2 => wpAny_bind (wpAny_standAt (wpAny_pure ?_)))
 obtain ⟨b, rfl, ob, T, hb, ⟨lo, kvs, hd, hf⟩, hT⟩ := hv
 have N2' : News hZ L h2 ((d0, o0) :: (new ++ news)) := fun p hp => N2 p (by
  rcases zC.mp hp with rfl | hp
  ·exact zR _ (.head _)
  ·rcases zA.mp hp with hp | hp
   ·exact zL _ hp
   ·exact zR _ (.tail _ hp))
 have hd0 : ∀ q ∈ new ++ news, q.1 ≠ d0 := fun q hq => by
  rcases zA.mp hq with hq | hq
  ·exact Ne.symm (hl _ (.head _) q hq)
  ·exact Nat.ne_of_lt (hlt q hq)
 have hz : kvs.length <= 20 := by rw [hf.length]; exact hkw.len
 have hnd : (kvs.map (·.1)).Nodup := by obtain ⟨_, _, _, _, _, _, hn⟩ := hd; exact hn
 refine ⟨b, ob, kvs, new ++ news, rfl, F2, N2', hb, hd0, lo, hd, by omega, fun h3 F3 N3 => ⟨a.K.keeps F3.keep, ?_⟩⟩
 refine new_msgG w hk hf hnd hkw hok hT (ax.less (by omega) (by omega)) (s := (St s h3 tk2)) F3 N3 (fun hok r new2 h4 tk4 hr hl4 F4 N4 => ?_) (fun hb b h' tk' hR => hbad hb b h' tk' _ (fun q hq => zR _ hq) hR)
 obtain ⟨x, rfl, hx⟩ := msg_of_post hr hT
 refine hq hok (.ref x) (new2 ++ new) h4 tk4 ⟨x, rfl, by rw [List.append_assoc]; exact hx⟩ (fun q hq y hy => ?_) F4 (by rw [List.append_assoc]; exact N4)
 rcases zA.mp hy with hy | hy
 ·exact hl4 q (zR _ hq) y hy
 ·exact hl q (.tail _ hq) y hy
theorem EvN.newMsg {D' U' : Nat} (a : At w A env hZ L (6 + D') (16 + U')) (hk : k < 18) (h1 : ∀ h, Fr hZ L h m -> News hZ L h news -> Ev (model pg w) A env h eAZ (· = .ref 418))
  (he : ∀ d0 o0, EvN (model pg w) A env hZ L m ((d0, o0) :: news) e (fun v new => ∃ b, v = .ref b /\ DctIs w (new ++ news) b D)) (hkw : KwOk k D) (hok : OkMsg k (initD k D))
  (hc : autoParam (eval (.Call eAZ [] [⟨Option.none, e, kp⟩] pos) env = (do let f <- eval eAZ env; callWith pos f [] (backTo pos (starEach [] env)) (backToKw pos (keywordEach [⟨Option.none, e, kp⟩] env)))) tA0) :
  EvN (model pg w) A env hZ L m news (.Call eAZ [] [⟨Option.none, e, kp⟩] pos) (fun v new => ∃ x, v = .ref x /\ MsgIs w (new ++ news) x (initD k D)) := fun s Q E F N hq => by
 obtain ⟨base, outer, ax⟩ := a.x
 exact newMsgG ax hk F N h1 he hkw (.inl hok) (fun _ v new h' tk' => hq v new h' tk') (fun ⟨i, hb⟩ => absurd hb fun hb => ok_not_bad hok hb) hc
theorem EvX.newMsg {base : Heap} {outer : List Env} {D' U' : Nat} (a : AtX w A base env outer hZ L (6 + D') (16 + U')) (hk : k < 18) (h1 : ∀ h, Fr hZ L h m -> News hZ L h news -> Ev (model pg w) A env h eAZ (· = .ref 418))
  (he : ∀ d0 o0, EvN (model pg w) A env hZ L m ((d0, o0) :: news) e (fun v new => ∃ b, v = .ref b /\ DctIs w (new ++ news) b D)) (hkw : KwOk k D) {iZ : Nat} (hno : BadMsg k (initD k D) iZ)
  (hc : autoParam (eval (.Call eAZ [] [⟨Option.none, e, kp⟩] pos) env = (do let f <- eval eAZ env; callWith pos f [] (backTo pos (starEach [] env)) (backToKw pos (keywordEach [⟨Option.none, e, kp⟩] env)))) tA0) :
  EvX (model pg w) A base env outer hZ L m news (.Call eAZ [] [⟨Option.none, e, kp⟩] pos) "ValueError" := fun s Q E F N hE =>
 newMsgG a hk F N h1 he hkw (.inr ⟨iZ, hno⟩) (fun hok => absurd hno fun hb => ok_not_bad hok hb) (fun _ b h' tk' news' hs hR => hE b h' tk' m news' hs hR) hc
theorem EvN.cm {pl : Sem Bool} {nm : Str} {fa pa : Addr} {rs : List Value} {RL : List Value -> Prop} {RN : Value -> List (Addr × Obj) -> Prop} {D' U' : Nat} (a : At w A env hZ L D' U') (h1 : ∀ h, Fr hZ L h m -> News hZ L h news -> Ev (model pg w) A env h eAZ (· = .ref 418))
  (he : ∀ q f h, Fr hZ L h m -> News hZ L h ((q, methodObj f (.ref 418)) :: news) -> EvL (model pg w) A env h (e :: es) RL)
  (G : ∀ q vs, RL vs -> GivesL w fa D' U' (.ref 418 :: vs) [] ((q, methodObj (.ref fa) (.ref 418)) :: news) (fun r led => ∃ new, led = new ++ ((q, methodObj (.ref fa) (.ref 418)) :: news) /\ RN r new /\ ∀ p ∈ (q, methodObj (.ref fa) (.ref 418)) :: news, ∀ x ∈ new, p.1 ≠ x.1))
  (hg : specialIn (KK w.params) (.ref 418) "__getattribute__" = some (some (.builtin "type.__getattribute__"))) (hm : typeIn (KK w.params) (.ref 418) = some (.type "type")) (hr : readsIn (KK w.params) 418 (.type "type") = true)
  (hf : findCls (KK w.params) (.ref 418) (.type "type") nm = some (.get (.builtin "classmethod.__get__") (.ref pa) .none (.ref 418))) (hp : recIn (KK w.params) pa "classmethod" = some (.ref fa :: rs)) (hfn : fnIn (KK w.params) fa = true)
  (hs : autoParam (starEach (e :: es) env = (false, eval e env) :: starEach es env) tA0) (hnn : autoParam (((backTo pB (starEach es env)).any fun x => x.1) = false) tA0)
  (hc : autoParam (eval (.Call (.Attribute eAZ nm pA) (e :: es) [] pB) env = (do
   let ov <- eval eAZ env
   standAt pA.atName
   let (f, first) <- holding [ov] (getMethod ov nm pl)
   callWith pB f first (backTo pB (starEach (e :: es) env)) [])) tA0) : EvN (model pg w) A env hZ L m news (.Call (.Attribute eAZ nm pA) (e :: es) [] pB) RN := fun s Q E F N hq => by
 refine MethodCall_ (h1 _ F N s _ E rfl fun v tk hv => ?_) hc
 subst hv
 refine method_of_cls (K := KK w.params) (s := (Tk s tk)) F a.K hg (cls_cm (s := (Tk s tk)) F a.K N hm hr hf hp fun q h2 F2 N2 lt => ?_)
 refine callWith_M (s := (St s h2 _)) a.K N2 (.head _) hfn (he q _ h2 F2 N2 (St s h2 _) _ E pB rfl fun vs tk' hvs => ⟨methP N2 (.head _) (a.K.keeps F2.keep), ?_⟩) hs hnn
 refine call_meth (s := (St s h2 tk')) N2 (.head _) ?_
 refine G q vs hvs A env hZ L m (St s h2 tk') _ a F2 N2 fun r led h3 tk3 hpost F3 N3 => ?_
 obtain ⟨new, rfl, hrn, hl⟩ := hpost
 exact hq r new h3 tk3 hrn (fun p hp x hx => hl p (.tail _ hp) x hx) F3 (fun p hp => N3 p (by
  rcases zA.mp hp with hp | hp
  ·exact zL _ hp
  ·exact zR _ (.tail _ hp)))
end
theorem entrL {w : World} {f : Addr} {vs : List Value} {kw : List (Str × Value)} {news : List (Addr × Obj)} {Post : Value -> List (Addr × Obj) -> Prop} (D U : Nat)
  {name qual : Str} {params : Arguments} {body : List Stmt} {scope : Scope} {dV kV doc pm cdv ct oc : Value} {an od : Option Addr} {osl : Array (Option Value)} (binds : List (Str × Value))
  (hb : ∀ (A : Around) (g : Heap) (L : Addr) (s : Shared) (m : Str -> Option Value), At w A (envOf qual scope L f cdv) g L D U -> Fr g L s.heap m -> (∀ p ∈ binds, m p.1 = some p.2) -> News g L s.heap news ->
   wpAny (model rW.prog w) A (execs body (envOf qual scope L f cdv)) (Ret g L news s Post) Never s)
  (ho : autoParam ((KK w.params).lookup f = some ⟨oc, od, .func (fnOf name qual params body scope dV kV doc pm an cdv ct), osl⟩) tA3) (hcd : autoParam (codeIn (KK w.params) cdv qual = true) tA3)
  (hbind : autoParam (∀ S, peek (KK w.params) S (bindArgs (fnOf name qual params body scope dV kV doc pm an cdv ct) ⟨vs, kw⟩) = some binds) tA2) (hloc : autoParam ((binds.all fun x => decide (scope.names.lookup x.1 = some .local)) = true) tA0)
  (hn : autoParam (∃ ns, binds.map (·.1) = ns /\ ns.Nodup) tA6) (hco : autoParam (scope.isCoroutine = false) tA0) (hgen : autoParam (scope.isGenerator = false) tA0) (hk : autoParam (scope.kind = .function) tA0) (hcell : autoParam (∀ x ∈ scope.names, x.2 ≠ .cell) tA1) :
  GivesL w f (D + 1) (U + 3) vs kw news (fun r led => ∃ new, led = new ++ news /\ Post r new /\ Ap news new) :=
 enterL D U binds (fun A g L s m a F hm N => wpAny_mono (hb A g L s m a F hm N) (fun fl s' h => by
  obtain ⟨new, h', tk', m', rfl, F', N', hl, hp⟩ := h
  exact ⟨new ++ news, h', tk', m', rfl, F', N', new, rfl, hp, hl⟩) fun _ _ x => x) ho hcd hbind hloc hn hco hgen hk hcell
noncomputable abbrev MsgPst (w : World) (news : List (Addr × Obj)) (D : FD) (r : Value) (new : List (Addr × Obj)) : Prop := ∃ x, r = .ref x /\ MsgIs w (new ++ news) x D
theorem from_dict_ok (w : World) (news : List (Addr × Obj)) {k : Nat} (hk : k < 18) {d : Addr} {D : FD} (hd : DctIs w news d D) (hkw : KwOk k D) (hok : OkMsg k (initD k D)) :
  GivesL w 309 7 19 [.ref 418, .ref d] [] news (fun r led => ∃ new, led = new ++ news /\ MsgPst w news (initD k D) r new /\ Ap news new) := by
 refine entrL 6 16 [(oS "cls", .ref 418), (oS "data", .ref d)] (fun A g L s m a F hm N => ?_)
 have e1 := hm _ (.head _)
 have e2 := hm _ (.tail _ (.head _))
 clear hm
 dsimp only at e1 e2
 refine st_retN F N (EvN.newMsg (D' := 0) (U' := 0) a hk (fun h F N => Ev.nm F e1) (fun d0 o0 => EvN.mono (EvN.of fun h F N => Ev.nm F e2) ?_) hkw hok) ?_
 ·rintro _ _ ⟨rfl, rfl⟩
  exact ⟨d, rfl, hd⟩
 ·rintro v new h' tk' hv hl F' N'
  exact ⟨new, h', tk', m, rfl, F', N', hl, hv⟩
theorem s2_dct {w : World} {new : List (Addr × Obj)} {D : FD} {r : Value} (h : ∃ (d : Addr) (o : Obj) (T : List (Addr × Obj)), r = .ref d /\ new = (d, o) :: T /\ DictIs rW.prog w (T86 w ++ T) d o D /\ (∀ p ∈ T, p.1 ≠ d)) : ∃ b, r = .ref b /\ DctIs w new b D := by
 obtain ⟨d, o, T, rfl, rfl, hD, _⟩ := h
 refine ⟨d, rfl, o, _, .head _, hD, fun p hp => ?_⟩
 rcases zA.mp hp with hp | hp
 ·exact .inr (zS.mp hp)
 ·exact .inl (.tail _ hp)
noncomputable def seqB (o : Obj) : Bool := o.cls == .type "tuple" || o.cls == .type "list"
theorem vin_filter {T : List (Addr × Obj)} {v : Value} {x : FV} (h : VIn T v x) : VIn (T.filter fun p => seqB p.2) v x := by
 cases h with
 | int => exact .int _ _
 | str => exact .str _ _
 | tup h r => exact .tup (List.mem_filter.mpr ⟨h, by show ((Value.type "tuple" == Value.type "tuple") || _) = true; simp⟩) r
 | lst h r => exact .lst (List.mem_filter.mpr ⟨h, by show (_ || (Value.type "list" == Value.type "list")) = true; simp⟩) r
theorem fld_filter {T : List (Addr × Obj)} {kvs : List (Str × Value)} {D : FD} (h : Fld T kvs D) : Fld (T.filter fun p => seqB p.2) kvs D := by
 induction h with
 | nil => exact .nil
 | cons a _ ih => exact .cons (vin_filter a) ih
theorem DctIs.drop {w : World} {new news : List (Addr × Obj)} {d q : Addr} {o : Obj} {D : FD} (h : DctIs w (new ++ (q, o) :: news) d D) (h1 : seqB o = false) (h2 : o.cls ≠ .type "dict") : DctIs w (new ++ news) d D := by
 have keep : ∀ p : Addr × Obj, p ∈ new ++ (q, o) :: news -> p.2 ≠ o -> p ∈ new ++ news := fun p hp hne => by
  rcases zA.mp hp with hp | hp
  ·exact zL _ hp
  ·rcases zC.mp hp with rfl | hp
   ·exact absurd rfl hne
   ·exact zR _ hp
 obtain ⟨od, T, hm, ⟨lo, kvs, hd, hf⟩, hT⟩ := h
 refine ⟨od, T.filter fun p => seqB p.2, keep _ hm (fun e => h2 ?_), ⟨lo, kvs, hd, fld_filter hf⟩, fun p hp => ?_⟩
 ·obtain ⟨_, _, hx, _⟩ := hd
  rw [<- e]; exact hx.1
 ·obtain ⟨hp1, hp2⟩ := List.mem_filter.mp hp
  refine (hT p hp1).imp (fun z => keep p z fun e => ?_) id
  rw [e, h1] at hp2; cases hp2
theorem MsgIs.drop {w : World} {new news : List (Addr × Obj)} {x q : Addr} {f self : Value} {D : FD} (h : MsgIs w (new ++ (q, methodObj f self) :: news) x D) : MsgIs w (new ++ news) x D := by
 have keep : ∀ p : Addr × Obj, p ∈ new ++ (q, methodObj f self) :: news -> p.2.cls ≠ .type "method" -> p ∈ new ++ news := fun p hp hne => by
  rcases zA.mp hp with hp | hp
  ·exact zL _ hp
  ·rcases zC.mp hp with rfl | hp
   ·exact absurd rfl hne
   ·exact zR _ hp
 obtain ⟨dx, d, t, h1, h2, h3⟩ := h
 exact ⟨dx, d, t, keep _ h1 (by show Value.ref 418 ≠ _; simp), keep _ h2 (by show Value.type "dict" ≠ _; simp), h3.drop (by show ((Value.type "method" == Value.type "tuple") || (Value.type "method" == Value.type "list")) = false; decide) (by show Value.type "method" ≠ _; simp)⟩
structure TextOk (k : Nat) (x : Str) (D : FD) : Prop where
 ex : ∃ args M, Txt.words x = kname k :: args /\ x.length <= 999999 /\ ArgsOk args M /\ M.length <= 20 /\ D = dMerge (mkD k) (dMerge [] M)
theorem str2msg_txt (w : World) (news : List (Addr × Obj)) {k : Nat} (hk : k < 18) {x : Str} {t : Tok} {D : FD} (hx : TextOk k x D) : Gives w 251 2 6 [.str x t] [] news (fun r new => ∃ b, r = .ref b /\ DctIs w new b D) := by
 obtain ⟨args, M, hw, hl, ha, hz, rfl⟩ := hx.ex
 refine (str2msg_G w news (.inl ⟨rfl, hk⟩) hw hl ha hz).ok (fun hno => ?_) fun r new hp => s2_dct hp.2
 obtain ⟨_, _, _, _, sn⟩ := specs_lk w.params
 have := hno w.params
 rw [sn k hk] at this; cases this
theorem from_str_ok (w : World) (news : List (Addr × Obj)) {k : Nat} (hk : k < 18) {x : Str} {t : Tok} {D : FD} (hx : TextOk k x D) (hkw : KwOk k D) (hok : OkMsg k (initD k D)) :
  GivesL w 391 7 19 [.ref 418, .str x t] [] news (fun r led => ∃ new, led = new ++ news /\ MsgPst w news (initD k D) r new /\ Ap news new) := by
 refine entrL 6 16 [(oS "cl", .ref 418), (oS "text", .str x t)] (fun A g L s m a F hm N => ?_)
 have e1 := hm _ (.head _)
 have e2 := hm _ (.tail _ (.head _))
 clear hm
 dsimp only at e1 e2
 refine st_retN F N (EvN.newMsg (D' := 0) (U' := 0) a hk (fun h F N => Ev.nm F e1) (fun d0 o0 => EvN.mono (EvN.fn (a.less (D' := 2) (U' := 6) (by decide) (by decide)) (fun h F N => Ev.glob (a.gl.keeps F.keep) (by k_is)) (by k_is) (fun h F N => EvL.one (Ev.nmS F e2)) (fun vs hvs => by
  obtain ⟨_, rfl, u, rfl⟩ := hvs
  exact str2msg_txt w _ hk hx)) ?_) hkw hok) ?_
 ·rintro v new ⟨b, rfl, hb⟩; exact ⟨b, rfl, hb.mono fun p hp => zL _ hp⟩
 ·rintro v new h' tk' hv hl F' N'
  exact ⟨new, h', tk', m, rfl, F', N', hl, hv⟩
theorem parse_string_ok (w : World) (news : List (Addr × Obj)) {k : Nat} (hk : k < 18) {x : Str} {t : Tok} {D : FD} (hx : TextOk k x D) (hkw : KwOk k D) (hok : OkMsg k (initD k D)) : Gives w 427 8 22 [.str x t] [] news (MsgPst w news (initD k D)) := by
 refine entr 7 19 [(oS "text", .str x t)] (fun A g L s m a F hm N => ?_)
 have e1 := hm _ (.head _)
 clear hm
 dsimp only at e1
 refine st_retN F N (EvN.cm (RL := fun vs => ∃ v, vs = [v] /\ IsS x v) (RN := fun r new => MsgPst w news (initD k D) r new) (fa := 391) (pa := 393) (nm := oS "from_str") a (fun h F N => Ev.glob (a.gl.keeps F.keep) (by k_is)) (fun q f h F N => EvL.one (Ev.nmS F e1)) (fun q vs hvs => ?_) (by k_is) (by k_is) (by k_is) (by k_is) (by k_is) (by k_is)) ?_
 ·obtain ⟨_, rfl, u, rfl⟩ := hvs
  intro A' env' hZ' L' m' s' R' a' F' N' hret
  refine from_str_ok w _ hk hx hkw hok A' env' hZ' L' m' s' R' a' F' N' fun r led h2 tk2 hp F2 N2 => ?_
  obtain ⟨new, rfl, ⟨x, rfl, hm⟩, hl⟩ := hp
  exact hret _ _ h2 tk2 ⟨new, rfl, ⟨x, rfl, hm.drop⟩, hl⟩ F2 N2
 ·rintro v new h' tk' hv hl F' N'
  exact ⟨new, h', tk', m, rfl, F', N', hl, hv⟩
section
variable {prog : Program} {w : World} {A : Around} {env : Env} {h hZ : Heap} {L : Addr} {m : Str -> Option Value} {news T : List (Addr × Obj)} {e eAZ eB : Expr} {pos pA pB : Pos} {s : Shared} {D : FD}
theorem EvN.copy {pl : Sem Bool} {d : Addr} {o : Obj} {D' U' : Nat} (a : At w A env hZ L D' U') (he : ∀ h, Fr hZ L h m -> News hZ L h news -> Ev (model prog w) A env h e (· = .ref d)) (hm : (d, o) ∈ news) (hD : DictIs prog w T d o D) (hz : D.length <= 99)
  (hc : autoParam (eval (.Call (.Attribute e (oS "copy") pA) [] [] pB) env = (do
   let ov <- eval e env
   standAt pA.atName
   let (f, first) <- holding [ov] (getMethod ov (oS "copy") pl)
   callWith pB f first (backTo pB (starEach [] env)) [])) tA0) : EvN (model prog w) A env hZ L m news (.Call (.Attribute e (oS "copy") pA) [] [] pB) (fun v new => ∃ b o', v = .ref b /\ new = [(b, o')] /\ DictIs prog w T b o' D) := fun s Q E F N hq => by
 obtain ⟨p, loose, mean, mg, mb, AA, baseA, outerA, BA, TT, hAA⟩ := a.ex
 refine MethodCall_ (he _ F N s _ E rfl fun v tk hv => ?_) hc
 subst hv
 obtain ⟨lo, kvs, hd, hf⟩ := hD
 refine kob_method PySem.F.slot_dict_copy PySem.F.type_dict_copy N hm hd ?_
 refine PyProof.Rows.callWith_method0 ?_
 have hD0 : s.heap.DictOf (strKind prog w) d kvs := Heap.dictOf_iff.mpr ⟨o, (N _ hm).1, hd⟩
 refine call_meetsIn (s := (Tk s tk)) PySem.F.slot_dict_copy hD0.typeIs PySem.F.entry_dict_copy (PySem.F.args_dict_copy_1 _) (meets_dict_copy (strKind prog w) d lo) ⟨kvs, hD0, by rw [hf.length, sizeLine_eq]; omega, fun h' h1 h2 h3 => ?_⟩
 obtain ⟨o', ho', hd'⟩ := Heap.dictOf_iff.mp h1
 have hn : ∀ q ∈ news, q.1 ≠ s.heap.objs.size := fun q hq => Nat.ne_of_lt (Heap.lt_size (N q hq).1)
 refine hq _ [(s.heap.objs.size, o')] h' tk ⟨_, o', rfl, rfl, F.notModules (modules_low TT.nolimit), kvs, hd', hf⟩ (fun q hq x hx => by rw [zS.mp hx]; exact hn q hq) (F.keeps h3) (fun q hq => ?_)
 rcases zC.mp hq with rfl | hq
 ·exact ⟨ho', Nat.ne_of_gt F.ns.lt, none_at_size F⟩
 ·exact ⟨h3 _ _ (N q hq).1, (N q hq).2⟩
theorem EvN.listV {ns : List Int} {D' U' : Nat} (a : At w A env hZ L D' U') (he : ∀ h, Fr hZ L h m -> News hZ L h news -> Ev (model prog w) A env h e (fun v => VIn T v (.tup ns))) (hT : TOk w T news) (hz : ns.length <= 99)
  (hg : autoParam (env.globals = mainGlobals) tA0) (hbl : autoParam (env.builtins = builtinsNs) tA0) (hk : autoParam (env.scope.kind = .function) tA0) (hx : autoParam (env.kindOf (oS "list") = some .globalImplicit) tA0)
  (hs : autoParam (starEach [e] env = (false, eval e env) :: starEach [] env) tA0) (hn : autoParam (((backTo pos (starEach [] env)).any fun x => x.1) = false) tA0)
  (hc : autoParam (eval (.Call (.Name (oS "list") pA) [e] [] pos) env = (do let f <- eval (.Name (oS "list") pA) env; callWith pos f [] (backTo pos (starEach [e] env)) (backToKw pos (keywordEach [] env)))) tA0) :
  EvN (model prog w) A env hZ L m news (.Call (.Name (oS "list") pA) [e] [] pos) (fun v new => ∃ (a : Addr) (vs : List Value) (n : Nat), v = .ref a /\ new = [(a, listOf vs.toArray n)] /\ IntsAre vs ns) := fun s Q E F N hq => by
 refine Call_ (Ev.built (a.gl.keeps F.keep) (glist _) (by rfl) (by decide) hg hbl hk hx (by decide) s _ E rfl fun v tk hv => ?_) hc
 subst hv
 refine PyProof.Rows.callWith_type1 (spliced_more (he _ F N (Tk s tk) _ E rfl fun v tk' hv => spliced_none ?_) hs) hs hn
 cases hv with
 | @tup b vs n _ hm hi =>
  refine list_copyKT (s := (Tk s tk')) F N ⟨_, hT.get a F N _ hm, rfl, _, rfl⟩ (fun D c h' F' N' l => hq _ [_] h' tk' ⟨D, vs, c, rfl, rfl, hi⟩ (fun q hq x hx => by rw [zS.mp hx]; exact Nat.ne_of_lt (l q hq)) F' N') (by rw [List.size_toArray, hi.length, sizeLine_eq]; omega)
end
theorem Ev.isMsg {w : World} {A : Around} {env : Env} {h hZ : Heap} {L : Addr} {m : Str -> Option Value} {news : List (Addr × Obj)} {e : Expr} {pos pA pB : Pos} {y dy : Addr} {ody : Obj} (G : Gl w h) (XZ : (KK w.params).In hZ) (F : Fr hZ L h m) (N : News hZ L h news) (h1 : (y, instObj 418 dy) ∈ news) (h2 : (dy, ody) ∈ news) (he : Ev (model pg w) A env h e (· = .ref y))
  (hg : autoParam (env.globals = mainGlobals) tA0) (hbl : autoParam (env.builtins = builtinsNs) tA0) (hk : autoParam (env.scope.kind = .function) tA0) (hx : autoParam (env.kindOf (oS "isinstance") = some .globalImplicit) tA0) (hx2 : autoParam (env.kindOf (oS "BaseMessage") = some .globalImplicit) tA0)
  (hs : autoParam (starEach [e, .Name (oS "BaseMessage") pB] env = (false, eval e env) :: starEach [.Name (oS "BaseMessage") pB] env) tA0) (hn : autoParam (((backTo pos (starEach [.Name (oS "BaseMessage") pB] env)).any fun x => x.1) = false) tA0)
  (hc : autoParam (eval (.Call (.Name (oS "isinstance") pA) [e, .Name (oS "BaseMessage") pB] [] pos) env = (do let f <- eval (.Name (oS "isinstance") pA) env; callWith pos f [] (backTo pos (starEach [e, .Name (oS "BaseMessage") pB] env)) (backToKw pos (keywordEach [] env)))) tA0) :
  Ev (model pg w) A env h (.Call (.Name (oS "isinstance") pA) [e, .Name (oS "BaseMessage") pB] [] pos) (· = .bool true) := by
 have gb : nsIn (KK w.params) mainGlobals (oS "BaseMessage") = some (some (.ref 338)) := by k_is
 refine Ev.callB (f := "isinstance") (Ev.built G (gisi _) (by rfl) (by decide) hg hbl hk hx) (EvL.cons he (EvL.one (Ev.glob G gb hg hk hx2) rfl) hs) (fun s Q E vs hh hvs hq => ?_) hs hn hc
 obtain ⟨_, _, rfl, rfl, _, rfl, rfl⟩ := hvs
 subst hh
 exact isi_call (K := KK w.params) (t := .ref 418) (XZ.keeps F.keep) (fun M => (InstAt.of_news N h1 h2).type) (by k_is) (by intro e; cases e) (hq _ s.toks rfl)
noncomputable def dictD (D : FD) : FD := if dAt D (oS "type") = some (.str (oS "sysex")) then dPut D (oS "data") (.lst (dSeq D (oS "data"))) else D
structure DictOk (D : FD) : Prop where
 type : ∃ x, dAt D (oS "type") = some (.str x)
 len : D.length <= 90
 seq : dAt D (oS "type") = some (.str (oS "sysex")) -> dAt D (oS "data") = some (.tup (dSeq D (oS "data"))) /\ (dSeq D (oS "data")).length <= 99
theorem msg_dict (w : World) (news : List (Addr × Obj)) {newsA : List (Addr × Obj)} {x : Addr} {D : FD} (hx : MsgIs w newsA x D) (hs : ∀ p ∈ newsA, p ∈ news) (hok : DictOk D) : Gives w 302 1 3 [.ref x] [] news (fun r new => ∃ d, r = .ref d /\ DctIs w (new ++ newsA) d (dictD D)) := by
 refine entr 0 0 [(oS "self", .ref x)] (fun A g L s m a F hm N => ?_)
 have e1 := hm _ (.head _)
 clear hm
 dsimp only at e1
 obtain ⟨dx, d, t, h1, h2, o, T, h3, hD, hT⟩ := hx
 obtain ⟨ty, hty⟩ := hok.type
 refine st_assignN rfl F N (EvN.copy a (fun h F N => Ev.fields a.K F N (hs _ h1) (hs _ h2) (Ev.nm F e1)) (hs _ h3) hD (Nat.le_trans hok.len (by decide))) ?_
 intro y81 y82 h4 tk4 y83
 apply ab4 y81 y82 h4 tk4; intro T9 e9
 obtain ⟨b, ob, rfl, rfl, hDb⟩ := y83
 subst e9
 intro l4 F4 N4
 have hab : ∀ q ∈ news, q.1 ≠ b := fun q hq => l4 q hq _ (.head _)
 clear F N
 have hTb : TOk w T ((b, ob) :: news) := hT.mono fun p hp => .tail _ (hs p hp)
 refine st_if (EvT.eqS (Ev.mono (Ev.dItem N4 (.head _) (Ev.nm F4 rfl) Ev.str hDb hty) fun v hv => vin_str hv) Ev.str) (fun tk b0 => ?_) (fun tk b0 => st_nil ?_)
 ·have hsx : dAt D (oS "type") = some (.str (oS "sysex")) := by rw [hty, eq_of_beq b0]
  obtain ⟨hq1, hq2⟩ := hok.seq hsx
  refine st_itemN rfl F4 N4 (EvN.listV a (fun h F N => Ev.dItem N (.head _) (Ev.nm F rfl) Ev.str hDb hq1) hTb hq2) (fun h F => Ev.nm F rfl) (fun h F => Ev.str) ?_
  intro y81 y82 h5 tk5 t5 y83
  apply ab5 y81 y82 h5 tk5 t5; intro T9 e9
  obtain ⟨c, vs, n, rfl, rfl, hi⟩ := y83
  subst e9
  intro l5 F5 N5
  have hc := l5 (b, ob) (.head _) _ (.head _)
  refine d_set (T := (c, listOf vs.toArray n) :: T) (x := .lst (dSeq D (oS "data"))) F5 N5 (.tail (Ne.symm hc) (.head hab)) (hDb.mono fun _ => .tail _) (.lst (.head _) hi) (Nat.le_trans hok.len (by decide)) fun h6 o6 F6 N6 hD6 => ?_
  refine st_nil (st_ret (Ev.nm F6 rfl) ?_)
  rintro _ tk7 rfl
  refine ⟨[(c, listOf vs.toArray n), (b, o6)], h6, tk7, _, rfl, F6, N6, fun q hq y hy => ?_, b, rfl, o6, (c, listOf vs.toArray n) :: T, .tail _ (.head _), by rw [dictD, if_pos hsx]; exact hD6, fun p hp => ?_⟩
  ·rcases zC.mp hy with rfl | hy
   ·exact l5 q (.tail _ hq) _ (.head _)
   ·rw [zS.mp hy]; exact hab q hq
  ·rcases zC.mp hp with rfl | hp
   ·exact .inl (.head _)
   ·exact (hT p hp).imp (fun z => .tail _ (.tail _ z)) id
 ·have hsx : ¬ dAt D (oS "type") = some (.str (oS "sysex")) := by
   rw [hty]
   intro e
   cases e
   simp at b0
  refine st_ret (Ev.nm F4 rfl) ?_
  rintro _ tk7 rfl
  exact ⟨[(b, ob)], h4, tk7, _, rfl, F4, N4, l4, b, rfl, ob, T, .head _, by rw [dictD, if_neg hsx]; exact hDb, hT.mono fun p hp => .tail _ hp⟩
theorem msg_eq (w : World) (news : List (Addr × Obj)) {x y : Addr} {Dx Dy : FD} (hx : MsgIs w news x Dx) (hy : MsgIs w news y Dy) : Gives w 335 1 104 [.ref x, .ref y] [] news (fun r new => r = .bool (dEq Dx Dy) /\ new = []) := by
 refine entr 0 101 [(oS "self", .ref x), (oS "other", .ref y)] (fun A g L s m a F hm N => ?_)
 have e1 := hm _ (.head _)
 have e2 := hm _ (.tail _ (.head _))
 clear hm
 dsimp only at e1 e2
 obtain ⟨dx, d, t, h1, h2, o, T, h3, hD, hT⟩ := hx
 obtain ⟨dy, d', t', h1', h2', o', T', h3', hD', hT'⟩ := hy
 refine st_if (EvT.not (EvT.bool (Ev.isMsg (a.gl.keeps F.keep) a.K F N h1' h2' (Ev.nm F e2)))) (fun tk b => nomatch b) (fun tk _ => st_nil ?_)
 refine st_ret (Ev.cmp (Ev.fields a.K F N h1 h2 (Ev.nm F e1)) (Ev.fields a.K F N h1' h2' (Ev.nm F e2)) (R := (· = .bool (dEq Dx Dy))) fun s' Q' E' u v hh hu hv hq' => ?_) ?_
 ·subst hu
  subst hv
  have F' : Fr g L s'.heap m := hh ▸ F
  have N' : News g L s'.heap news := hh ▸ N
  refine d_eq (T := T ++ T') N' (fun p hp => ?_) h3 h3' (hD.mono fun p hp => zL _ hp) (hD'.mono fun p hp => zR _ hp) (by have := a.un; omega) (hq' _ s'.toks rfl)
  rcases zA.mp hp with hp | hp
  ·exact hT.get a F' N' p hp
  ·exact hT'.get a F' N' p hp
 ·rintro _ tk rfl
  exact ⟨[], s.heap, tk, m, rfl, F, N, fun _ _ _ hx => absurd hx List.not_mem_nil, rfl, rfl⟩
noncomputable def EvK (M : Model) (A : Around) (env : Env) (hZ : Heap) (L : Addr) (m : Str -> Option Value) (news : List (Addr × Obj)) (e : Expr) (RN : Value -> List (Addr × Obj) -> Prop) : Prop :=
 ∀ (s : Shared) (Q E : Value -> Shared -> Prop) (o : Obj), Fr hZ L s.heap m -> News hZ L s.heap ((227, o) :: news) -> Tab o -> AllBare s.gens ->
  (∀ v new h' g' tk o', RN v new -> (∀ q ∈ (227, o') :: news, ∀ x ∈ new, q.1 ≠ x.1) -> Tab o' -> AllBare g' -> Fr hZ L h' m -> News hZ L h' ((227, o') :: (new ++ news)) -> Q v (Sg s h' g' tk)) -> wpAny M A (eval e env) Q E s
noncomputable def EvTK (M : Model) (A : Around) (env : Env) (hZ : Heap) (L : Addr) (m : Str -> Option Value) (news : List (Addr × Obj)) (e : Expr) (b : Bool) : Prop :=
 ∀ (s : Shared) (Q : Bool -> Shared -> Prop) (E : Value -> Shared -> Prop) (o : Obj), Fr hZ L s.heap m -> News hZ L s.heap ((227, o) :: news) -> Tab o -> AllBare s.gens ->
  (∀ h' g' tk o', Tab o' -> AllBare g' -> Fr hZ L h' m -> News hZ L h' ((227, o') :: news) -> Q b (Sg s h' g' tk)) -> wpAny M A (isTrue e env (eval e env)) Q E s
section
variable {w : World} {A : Around} {env : Env} {h hZ : Heap} {L : Addr} {m : Str -> Option Value} {news : List (Addr × Obj)} {e eAZ eB : Expr} {es : List Expr} {R : Value -> Prop} {RN RNA RNB : Value -> List (Addr × Obj) -> Prop} {RL : List Value -> Prop} {x y : Str} {b c : Bool} {pos pA pB pC kp : Pos} {s : Shared} {Q : Flow -> Shared -> Prop} {E : Value -> Shared -> Prop} {rest body orelse : List Stmt} {D U : Nat}
theorem EvK.ofN {M : Model} (he : ∀ o, EvN M A env hZ L m ((227, o) :: news) e RN) : EvK M A env hZ L m news e RN := fun s Q E o F N ht hb hq =>
 he o s Q E F N fun v new h' tk hv hl F' N' => hq v new h' s.gens tk o hv hl ht hb F' fun p hp => N' p (by
  rcases zC.mp hp with rfl | hp
  ·exact zR _ (.head _)
  ·rcases zA.mp hp with hp | hp
   ·exact zL _ hp
   ·exact zR _ (.tail _ hp))
theorem EvK.of {M : Model} (he : ∀ h o, Fr hZ L h m -> News hZ L h ((227, o) :: news) -> Ev M A env h e R) : EvK M A env hZ L m news e (fun v new => R v /\ new = []) := EvK.ofN fun o => EvN.of fun h F N => he h o F N
theorem EvK.mono {M : Model} (h1 : EvK M A env hZ L m news e RN) (hr : ∀ v new, RN v new -> RNA v new) : EvK M A env hZ L m news e RNA := fun s Q E o F N ht hb hq => h1 s Q E o F N ht hb fun v new h' g' tk o' hv => hq v new h' g' tk o' (hr v new hv)
theorem EvTK.of {M : Model} (he : ∀ h o, Fr hZ L h m -> News hZ L h ((227, o) :: news) -> EvT M A env h e b) : EvTK M A env hZ L m news e b := fun s Q E o F N ht hb hq => he _ o F N s Q E rfl fun tk => hq s.heap s.gens tk o ht hb F N
theorem EvK.fn {f : Addr} (a : At w A env hZ L D U) (hf : ∀ h, Fr hZ L h m -> Ev (model pg w) A env h eAZ (· = .ref f)) (hk : keepIn (KK w.params) (.ref f) = true)
  (he : ∀ h o, Fr hZ L h m -> News hZ L h ((227, o) :: news) -> EvL (model pg w) A env h (e :: es) RL) (G : ∀ vs, RL vs -> GivesG w f D U vs [] news (fun r new => R r /\ new = []))
  (hs : autoParam (starEach (e :: es) env = (false, eval e env) :: starEach es env) tA0) (hn : autoParam (((backTo pos (starEach es env)).any fun x => x.1) = false) tA0)
  (hc : autoParam (eval (.Call eAZ (e :: es) [] pos) env = (do let f <- eval eAZ env; callWith pos f [] (backTo pos (starEach (e :: es) env)) (backToKw pos (keywordEach [] env)))) tA0) : EvK (model pg w) A env hZ L m news (.Call eAZ (e :: es) [] pos) (fun v new => R v /\ new = []) := fun s Q E o F N ht hb hq => by
 refine Call_ (hf _ F s _ E rfl fun v tk hv => ?_) hc
 subst hv
 refine callWith_K a.K hk (he _ o F N _ _ E pos rfl fun vs tk' hvs => ⟨a.K.keeps F.keep, ?_⟩) hs hn
 refine G vs hvs A env hZ L m (Tk s tk') Q E o a F N ht hb fun r new h' g' tk'' o' hp hl ht' hb' F' N' => ?_
 obtain ⟨hr, rfl⟩ := hp
 exact hq r [] h' g' tk'' o' ⟨hr, rfl⟩ (fun _ _ _ hx => nomatch hx) ht' hb' F' N'
theorem EvK.fnKw {kn : Str} {f : Addr} {RK : Value -> Prop} (a : At w A env hZ L D U) (hf : ∀ h, Fr hZ L h m -> Ev (model pg w) A env h eAZ (· = .ref f)) (hk : keepIn (KK w.params) (.ref f) = true)
  (he : ∀ h o, Fr hZ L h m -> News hZ L h ((227, o) :: news) -> EvL (model pg w) A env h (e :: es) RL) (hkv : ∀ h, Fr hZ L h m -> Ev (model pg w) A env h eB RK) (G : ∀ vs k, RL vs -> RK k -> GivesG w f D U vs [(kn, k)] news (fun r new => R r /\ new = []))
  (hs : autoParam (starEach (e :: es) env = (false, eval e env) :: starEach es env) tA0) (hn : autoParam (((backTo pos (starEach (e :: es) env)).any (·.1) || (backToKw pos (keywordEach [⟨some kn, eB, kp⟩] env)).any (·.1.isNone)) = false) tA0)
  (hc : autoParam (eval (.Call eAZ (e :: es) [⟨some kn, eB, kp⟩] pos) env = (do let f <- eval eAZ env; callWith pos f [] (backTo pos (starEach (e :: es) env)) (backToKw pos (keywordEach [⟨some kn, eB, kp⟩] env)))) tA0) : EvK (model pg w) A env hZ L m news (.Call eAZ (e :: es) [⟨some kn, eB, kp⟩] pos) (fun v new => R v /\ new = []) := fun s Q E o F N ht hb hq => by
 rw [hc]
 refine wpAny_bind (hf _ F s _ E rfl fun v tk hv => ?_)
 subst hv
 refine callWith_KW a.K hk rfl (he _ o F N _ _ E pos rfl fun vs tk' hvs => kwAll_cons (hkv _ F (Tk s tk') _ E rfl fun kv tk2 hkv2 => kwAll_nil ⟨a.K.keeps F.keep, ?_⟩)) hn hs
 refine G vs kv hvs hkv2 A env hZ L m (Tk s tk2) Q E o a F N ht hb fun r new h' g' tk'' o' hp hl ht' hb' F' N' => ?_
 obtain ⟨hr, rfl⟩ := hp
 exact hq r [] h' g' tk'' o' ⟨hr, rfl⟩ (fun _ _ _ hx => nomatch hx) ht' hb' F' N'
theorem EvTK.not {M : Model} (h1 : EvTK M A env hZ L m news e c) : EvTK M A env hZ L m news (.UnaryOp .Not e pos) (!c) := fun s Q E o F N ht hb hq => isTrue_not (h1 s _ E o F N ht hb hq)
theorem EvTK.cmp {op : CmpOp} (h1 : EvK (model pg w) A env hZ L m news eAZ RNA) (h2 : ∀ news', (∀ p ∈ news, p ∈ news') -> EvK (model pg w) A env hZ L m news' eB (fun v new => RNB v (new ++ news')))
  (hop : ∀ (s : Shared) (Q E : Value -> Shared -> Prop) u v newA led o, RNA u newA -> RNB v led -> (∀ p ∈ newA ++ news, p ∈ led) -> Fr hZ L s.heap m -> News hZ L s.heap ((227, o) :: led) -> Tab o -> AllBare s.gens ->
   (∀ h' tk, Fr hZ L h' m -> News hZ L h' ((227, o) :: news) -> Q (.bool b) (St s h' tk)) -> wpAny (model pg w) A (compareOp op u v) Q E s) (hb : autoParam (behindInMarks op eB = false) tA0) : EvTK (model pg w) A env hZ L m news (.Compare eAZ [op] [eB] pos) b := fun s Q E o F N ht hbr hq => by
 refine wpAny_isTrue_Compare1 (h1 s _ E o F N ht hbr fun u newA h1' g1 tk1 o1 hu hl1 ht1 hb1 F1 N1 => h2 (newA ++ news) (fun p hp => zR _ hp) (Sg s h1' g1 tk1) _ E o1 F1 N1 ht1 hb1 fun v newB h2' g2 tk2 o2 hv hl2 ht2 hb2 F2 N2 => ?_) hb
 exact hop (Sg s h2' g2 tk2) _ E u v newA (newB ++ (newA ++ news)) o2 hu hv (fun p hp => zR _ hp) F2 N2 ht2 hb2 fun h3 tk3 F3 N3 => wpAny_truthy_bool (hq h3 g2 tk3 o2 ht2 hb2 F3 N3)
theorem EvTK.neS (h1 : EvK (model pg w) A env hZ L m news eAZ (fun v _ => IsS x v)) (h2 : ∀ news', (∀ p ∈ news, p ∈ news') -> EvK (model pg w) A env hZ L m news' eB (fun v _ => IsS y v)) (hb : autoParam (behindInMarks .NotEq eB = false) tA0) : EvTK (model pg w) A env hZ L m news (.Compare eAZ [.NotEq] [eB] pos) (x != y) :=
 EvTK.cmp (RNB := fun v _ => IsS y v) h1 h2 (fun s Q E u v newA led o hu hv hsub F N ht hbr hq => by
  obtain ⟨_, rfl⟩ := hu
  obtain ⟨_, rfl⟩ := hv
  exact PyProof.Rows.ne_str (hq s.heap s.toks F (fun p hp => N p (by
   rcases zC.mp hp with rfl | hp
   ·exact .head _
   ·exact .tail _ (hsub p (zR _ hp)))))) hb
theorem EvTK.or {d : Bool} (h1 : EvTK (model pg w) A env hZ L m news eAZ c) (h2 : c = false -> EvTK (model pg w) A env hZ L m news eB d) : EvTK (model pg w) A env hZ L m news (.BoolOp .Or [eAZ, eB] pos) (c || d) := fun s Q E o F N ht hb hq => by
 refine isTrue_or (h1 s _ E o F N ht hb fun h' g' tk o' ht' hb' F' N' => ?_)
 cases c with
 | true => exact hq h' g' tk o' ht' hb' F' N'
 | false =>
  refine isTrue_or (h2 rfl (Sg s h' g' tk) _ E o' F' N' ht' hb' fun h2' g2 tk2 o2 ht2 hb2 F2 N2 => ?_)
  cases d with
  | true => exact hq h2' g2 tk2 o2 ht2 hb2 F2 N2
  | false => exact isTrue_or_nil (hq h2' g2 tk2 o2 ht2 hb2 F2 N2)
theorem EvTK.and {d : Bool} (h1 : EvTK (model pg w) A env hZ L m news eAZ c) (h2 : c = true -> EvTK (model pg w) A env hZ L m news eB d) : EvTK (model pg w) A env hZ L m news (.BoolOp .And [eAZ, eB] pos) (c && d) := fun s Q E o F N ht hb hq => by
 refine isTrue_and (h1 s _ E o F N ht hb fun h' g' tk o' ht' hb' F' N' => ?_)
 cases c with
 | false => exact hq h' g' tk o' ht' hb' F' N'
 | true =>
  refine isTrue_and (h2 rfl (Sg s h' g' tk) _ E o' F' N' ht' hb' fun h2' g2 tk2 o2 ht2 hb2 F2 N2 => ?_)
  cases d with
  | false => exact hq h2' g2 tk2 o2 ht2 hb2 F2 N2
  | true => exact isTrue_and_nil (hq h2' g2 tk2 o2 ht2 hb2 F2 N2)
end
theorem st_retK {M : Model} {A : Around} {env : Env} {hZ : Heap} {L : Addr} {m : Str -> Option Value} {news : List (Addr × Obj)} {e : Expr} {RN : Value -> List (Addr × Obj) -> Prop} {s : Shared} {Q : Flow -> Shared -> Prop} {E : Value -> Shared -> Prop} {rest : List Stmt} {pos : Pos} {o : Obj} (F : Fr hZ L s.heap m) (N : News hZ L s.heap ((227, o) :: news)) (ht : Tab o) (hbr : AllBare s.gens) (he : EvK M A env hZ L m news e RN)
  (k : ∀ v new h' g' tk o', RN v new -> (Ap news new) -> Tab o' -> AllBare g' -> Fr hZ L h' m -> News hZ L h' ((227, o') :: (new ++ news)) -> Q (.ret v) (Sg s h' g' tk)) : wpAny M A (execs (.Return (some e) pos :: rest) env) Q E s :=
 wpAny_execs_cons (wpAny_Return_some (he s _ E o F N ht hbr fun v new h' g' tk o' hv hl => k v new h' g' tk o' hv fun q hq => hl q (.tail _ hq)))
theorem format_any (w : World) (news : List (Addr × Obj)) {k : Nat} (hk : k < 18) {x : Addr} {D : FD} (hx : MsgIs w news x D) (hg : GoodM k D) (hne : ∀ q ∈ news, q.1 ≠ 227) (bv : Bool)
  (vs : List Value) (kw : List (Str × Value)) (hbind : ∀ S, peek (KK w.params) S (bindArgs (mkFn (topFn 41) (oS "format_as_string") (.ref 435) (.str (oS "mido.messages.messages") 799) (.ref 441) none) ⟨vs, kw⟩) = some [(oS "msg", .ref x), (oS "include_time", .bool bv)]) :
  GivesG w 442 2 6 vs kw news (fun r new => IsS (mtext k D bv) r /\ new = []) := by
 refine enterG 1 3 [(oS "msg", .ref x), (oS "include_time", .bool bv)] (fun A g L s m o a F hm' N ht hbare => ?_) (hbind := hbind)
 have e1 := hm' _ (.head _)
 have e2 := hm' _ (.tail _ (.head _))
 clear hm'
 dsimp only at e1 e2
 obtain ⟨dx, d, t, i1, i2, T, mo, hm, hD, hT⟩ := hx
 have G := fun {h m} (F : Fr g L h m) => a.gl.keeps F.keep
 refine st_retK F N ht hbare (EvK.fnKw (R := IsS (mtext k D bv)) a (fun h F => Ev.glob (G F) (by k_is)) (by k_is) (fun h o F N => EvL.one (Ev.fields a.K F N (.tail _ i1) (.tail _ i2) (Ev.nm F e1))) (fun h F => Ev.nm F e2) ?_) ?_
 ·intro vs kv y81 y82
  obtain ⟨_, rfl, rfl⟩ := y81
  obtain rfl := y82
  exact msg2str_2 w news hk hm hD hT hg hne bv
 ·intro v new h' g' tk o' y81 hl ht' hb' F' N'
  obtain ⟨hv, rfl⟩ := y81
  exact ⟨[], h', g', tk, _, o', rfl, F', N', hl, ht', hb', hv, rfl⟩
theorem format_1 (w : World) (news : List (Addr × Obj)) {k : Nat} (hk : k < 18) {x : Addr} {D : FD} (hx : MsgIs w news x D) (hg : GoodM k D) (hne : ∀ q ∈ news, q.1 ≠ 227) :
  GivesG w 442 2 6 [.ref x] [] news (fun r new => IsS (mtext k D true) r /\ new = []) := format_any w news hk hx hg hne true _ _ (by intro _; rfl)
theorem format_2 (w : World) (news : List (Addr × Obj)) {k : Nat} (hk : k < 18) {x : Addr} {D : FD} (hx : MsgIs w news x D) (hg : GoodM k D) (hne : ∀ q ∈ news, q.1 ≠ 227) (bv : Bool) :
  GivesG w 442 2 6 [.ref x] [(oS "include_time", .bool bv)] news (fun r new => IsS (mtext k D bv) r /\ new = []) := format_any w news hk hx hg hne bv _ _ (by intro _; rfl)
section
variable {prog : Program} {w : World} {A A₀ : Around} {E : Value -> Shared -> Prop} {s : Shared} {R : Result -> Shared -> Prop}
theorem codeC_func {body : List Stmt} {env : Env} (h : wpC (model prog w) (A.deeper env) (execs body env) (fun f s' => R (.ok (.ret (match f with | .ret v => v | _ => .none))) s')
   (fun e s' => wpAny (model prog w) (A.deeper env) (leaving env e) (fun _ s'' => R (.error e) s'') (fun e' s'' => R (.error e') s'') s') s) : codeC (model prog w) A (.func body env) R s := by
 refine codeC_of_tree ?_
 show wpC _ (A.deeper env) (do point; match <- (execs body env).onRaise (leaving env) with | .ret v => ret v | _ => ret .none) _ _ s
 refine wpC_bindA (wpAny_point (wpC_bind ?_))
 have hm : wpC (model prog w) (A.deeper env) ((execs body env).onRaise (leaving env)) (fun f s' => R (.ok (.ret (match f with | .ret v => v | _ => .none))) s') (fun e s' => R (.error e) s') s := fun Γ p hΓ hc => by
  rw [Sem.wp_onRaise]
  exact Sem.wp_mono _ Γ _ (fun _ _ _ h' => h') (fun e p' s' h' => h' Γ p' hΓ) p s (h Γ p hΓ hc)
 exact wpC_mono hm (fun f s' h' => by cases f <;> exact wpC_pure h') fun _ _ h' => h'
theorem codeC_call_function {a : Addr} {args : Args} {o : Obj} {fd : FuncData} {body : List Stmt} (hroom : A.depth < recursionLimit) (ho : s.heap.get? a = some o)
  (hd' : o.data = .func fd) (hco : fd.scope.isCoroutine = false) (hgen : fd.scope.isGenerator = false) (hbody : fd.body = .stmts body) (hcd : s.heap.CodeRec fd.code fd.qualname)
  (h : wpAny (model prog w) A.in1 (bindArgs fd args) (fun binds sA =>
   wpAny (model prog w) A.in1 (newFunctionEnv fd.scope fd.globals fd.closure binds (fd.qualname ++ ".<locals>.") (some a) fd.code none fd.builtins)
    (fun env sB => sB.heap.NoLimit /\ codeC (model prog w) A (.func body env) R sB) (fun e s' => R (.error e) s') sA) (fun e s' => R (.error e) s') s) : codeC (model prog w) A (.call (.ref a) args) R s := by
 refine codeC_of_tree (wpC_of ?_)
 show wpAny _ A.in1 (callAny (.ref a) args) _ _ s
 refine wpAny_bind (m := load a) (wpAny_load ho ?_)
 obtain ⟨c, oc, vs, tq, hc, hoc, hdc, hq⟩ := hcd
 rw [hc] at h
 refine wq (t' := callFunction a fd args) (by rw [hd']) ?_
 unfold callFunction
 rw [hco, hgen, hbody, hc]
 refine wpAny_bind (m := field (.ref c) 1) (wpAny_field hoc hdc hq (wpAny_bind (wpAny_pure ?_)))
 exact wpAny_bind (wpAny_mono h (fun binds sA hAZ => wpAny_bind (wpAny_mono hAZ (fun env sB hBZ => wpAny_bind (wpAny_enterFrame hBZ.1 hroom
  (wpAny_pure (And.intro rfl hBZ.2)))) fun _ _ h' => h')) fun _ _ h' => h')
theorem codeC_def {K : Frag} {p : Program} {loose : List Str} {mean : ExcName -> Option Value} {mg mb : Str -> Option Value} {base hZ : Heap} {L f : Addr} {m : Str -> Option Value} {news : List (Addr × Obj)} {env : Env} {outer : List Env} {name qual : Str} {params : Arguments} {body : List Stmt} {scope : Scope} {dV kV doc pm cdv ct oc : Value} {an od : Option Addr} {osl : Array (Option Value)} {args : Args} {binds : List (Str × Value)}
  (B : Below A₀ base outer hZ) (F : Fr hZ L s.heap m) (XZ : K.In hZ) (N : News hZ L s.heap news) (T : Top p loose mean mg mb hZ) (hA : A.frames = some (env :: outer)) (hf : env.frame = some L) (hke : env.scope.kind = .function)
  (ho : K.lookup f = some ⟨oc, od, .func (fnOf name qual params body scope dV kV doc pm an cdv ct), osl⟩) (hcd : codeIn K cdv qual = true) (hroom : A.depth < recursionLimit)
  (hbind : BindsTo s (fnOf name qual params body scope dV kV doc pm an cdv ct) args binds) (hloc : ∀ y ∈ binds, scope.names.lookup y.1 = some .local)
  (h : ∀ g L' hAZ, Fr hZ L g m -> Fr g L' hAZ (fun y => binds.reverse.lookup y) -> News g L' hAZ news -> Below A base (env :: outer) g -> K.In g -> Top p loose mean mg mb g ->
   wpC (model prog w) (A.deeper (envOf qual scope L' f cdv)) (execs body (envOf qual scope L' f cdv))
    (fun fl s' => LeaveK hZ L m g R (match fl with | .ret v => v | _ => .none) s')
    (fun e s' => wpAny (model prog w) (A.deeper (envOf qual scope L' f cdv)) (leaving (envOf qual scope L' f cdv) e) (fun _ s'' => R (.error e) s'') (fun e' s'' => R (.error e') s'') s')
    (St s hAZ (s.toks + binds.length)))
  (hco : scope.isCoroutine = false) (hgen : scope.isGenerator = false) (hk : scope.kind = .function) (hcell : ∀ x ∈ scope.names, x.2 ≠ .cell) : codeC (model prog w) A (.call (.ref f) args) R s := by
 obtain ⟨FG, BG, st, lv⟩ := groundX (R := R) B F N hA hf hke
 have ho' := (XZ.keeps F.keep) _ _ ho
 have hcd' := codeRec_of (XZ.keeps F.keep) hcd
 refine codeC_call_function (fd := fnOf name qual params body scope dV kV doc pm an cdv ct) (body := body) hroom ho' rfl hco hgen rfl hcd' (hbind _ _ _ _ ?_)
 refine wpAny_newFunctionEnv hcell hloc (fun hAZ hnsZ hsbZ => ⟨(T.nolimit.keeps F.keep).fresh _ hsbZ, codeC_func ?_⟩) hk
 have hkA : ∀ b o, s.heap.get? b = some o -> hAZ.get? b = some o := fun b o e => hsbZ.extBut b o (Nat.ne_of_lt (Heap.lt_size e)) (Heap.get?_push_of_some _ e)
 exact wpC_mono (h _ s.heap.objs.size hAZ FG ⟨hnsZ, fun b o e => hkA b o (of_hideAll _ e), Nat.le_of_eq (hideAll_size _ _)⟩
  (fun p hp => ⟨hkA _ _ (N p hp).1, Nat.ne_of_lt (Heap.lt_size (N p hp).1), hideAll_none _ (List.mem_map_of_mem hp)⟩) BG (XZ.keeps st) (T.keeps st)) (fun fl s' hl => lv _ _ hl) fun _ _ y => y
end
noncomputable def GivesC (w : World) (f : Addr) (D U : Nat) (vs : List Value) (kw : List (Str × Value)) (news : List (Addr × Obj)) (X : String) : Prop :=
 ∀ (A : Around) (base : Heap) (env : Env) (outer : List Env) (hZ : Heap) (L : Addr) (m : Str -> Option Value) (s : Shared) (R : Result -> Shared -> Prop), AtX w A base env outer hZ L D U -> Fr hZ L s.heap m -> News hZ L s.heap news ->
  (∀ a h' tk, RaisedX base env outer hZ L m news X a h' -> R (.error (.ref a)) (St s h' tk)) -> codeC (model rW.prog w) A (.call (.ref f) ⟨vs, kw⟩) R s
theorem GivesX.toC {w : World} {f : Addr} {D U : Nat} {vs : List Value} {kw : List (Str × Value)} {news : List (Addr × Obj)} {X : String} (h : GivesX w f D U vs kw news X) : GivesC w f D U vs kw news X := fun A base env outer hZ L m s R a F N hr => codeC_of (h A base env outer hZ L m s R a F N hr)
theorem enterC {w : World} {f : Addr} {vs : List Value} {kw : List (Str × Value)} {news : List (Addr × Obj)} {X : String} (D U : Nat)
  {name qual : Str} {params : Arguments} {body : List Stmt} {scope : Scope} {dV kV doc pm cdv ct oc : Value} {an od : Option Addr} {osl : Array (Option Value)} (binds : List (Str × Value))
  (hb : ∀ (A : Around) (base : Heap) (outer : List Env) (g : Heap) (L : Addr) (s : Shared) (m : Str -> Option Value) (R' : Value -> Shared -> Prop), AtX w A base (envOf qual scope L f cdv) outer g L D U -> Fr g L s.heap m -> (∀ p ∈ binds, m p.1 = some p.2) -> News g L s.heap news ->
   RaiseOk base outer g news X s R' -> wpC (model rW.prog w) A (execs body (envOf qual scope L f cdv)) (fun _ _ => False) (EBody (model rW.prog w) A (envOf qual scope L f cdv) R') s)
  (ho : autoParam ((KK w.params).lookup f = some ⟨oc, od, .func (fnOf name qual params body scope dV kV doc pm an cdv ct), osl⟩) tA3) (hcd : autoParam (codeIn (KK w.params) cdv qual = true) tA3)
  (hbind : autoParam (∀ S, peek (KK w.params) S (bindArgs (fnOf name qual params body scope dV kV doc pm an cdv ct) ⟨vs, kw⟩) = some binds) tA2) (hloc : autoParam ((binds.all fun x => decide (scope.names.lookup x.1 = some .local)) = true) tA0)
  (hn : autoParam (∃ ns, binds.map (·.1) = ns /\ ns.Nodup) tA6) (hco : autoParam (scope.isCoroutine = false) tA0) (hgen : autoParam (scope.isGenerator = false) tA0) (hk : autoParam (scope.kind = .function) tA0) (hcell : autoParam (∀ x ∈ scope.names, x.2 ≠ .cell) tA1) :
  GivesC w f (D + 1) (U + 3) vs kw news X := by
 obtain ⟨_, rfl, hn⟩ := hn
 intro A base env outer hZ L m s R a F N hraise
 have aa := a.at_
 obtain ⟨p, loose, mean, mg, mb, AA, baseA, outerA, BA, T, hAA⟩ := aa.ex
 refine codeC_def (A₀ := { A with frames := some outer }) (base := base) (outer := outer) ⟨rfl, a.bst, a.bfr⟩ F aa.K N T a.frx aa.fr aa.kd ho hcd (by have := aa.dp; omega) (kp_binds (aa.K.keeps F.keep) hbind) (locs hloc) (fun g L' hAZ FG F' N' B' X' T' => ?_) hco hgen hk hcell
 have ax : AtX w (A.deeper (envOf qual scope L' f cdv)) base (envOf qual scope L' f cdv) (env :: outer) g L' D U :=
  ⟨⟨⟨p, loose, mean, mg, mb, A, base, env :: outer, B', T', by show (A.frames.map _) = _; rw [a.frx]; rfl⟩, aa.hh, rfl, rfl, hk, X', by show A.depth + 1 + D < _; have := aa.dp; omega, by show A.units + 3 + U < _; have := aa.un; omega, ⟨base, env :: outer, by show (A.frames.map _) = _; rw [a.frx]; rfl, B'.stays, B'.frames, a.bK, a.bT, Nat.le_add_left _ _, Nat.le_add_left _ _⟩⟩,
   by show (A.frames.map _) = _; rw [a.frx]; rfl, B'.stays, B'.frames, a.bK, a.bT, by show 1 <= A.depth + 1; omega, by show 3 <= A.units + 3; omega⟩
 refine wpC_mono (hb (A.deeper (envOf qual scope L' f cdv)) base (env :: outer) g L' _ _ (fun e s'' => R (.error e) s'') ax F' (fun q hq => ?_) N' (fun b h' tk t vs hK hu => hraise b h' tk ⟨g, t, vs, FG, hu, hK⟩)) (fun _ _ h => h.elim) (fun _ _ h => h)
 exact lookup_mem (by rw [List.map_reverse]; exact List.pairwise_reverse.mpr (List.Pairwise.imp (fun h e => h e.symm) hn)) (List.mem_reverse.mpr hq)
noncomputable def EvC (M : Model) (A : Around) (base : Heap) (env : Env) (outer : List Env) (hZ : Heap) (L : Addr) (m : Str -> Option Value) (news : List (Addr × Obj)) (e : Expr) (X : String) : Prop :=
 ∀ (s : Shared) (Q E : Value -> Shared -> Prop), Fr hZ L s.heap m -> News hZ L s.heap news -> Takes base env outer hZ L news X s E -> wpC M A (eval e env) Q E s
section
variable {w : World} {A : Around} {env : Env} {base hZ : Heap} {outer : List Env} {L : Addr} {m : Str -> Option Value} {news newsZ : List (Addr × Obj)} {e eAZ : Expr} {es : List Expr} {X x : String} {D U : Nat} {RL : List Value -> Prop} {pos pA : Pos} {s : Shared} {E : Value -> Shared -> Prop} {Q : Flow -> Shared -> Prop} {rest body orelse : List Stmt} {st : Stmt} {y : Str}
theorem wpC_seq {M : Model} (h : wpAny M A (execs [st] env) (fun f s' => match f with | .next => wpC M A (execs rest env) Q E s' | f => Q f s') E s) : wpC M A (execs (st :: rest) env) Q E s := fun Γ p hΓ hc => by
 have h1 := h Γ p hΓ
 rw [execs_cons, Sem.wp_bind'] at h1 ⊢
 refine Sem.wp_mono M Γ _ (fun f p' s' h' => ?_) (fun _ _ _ h' => h') _ _ h1
 cases f <;> first | exact h' Γ p' hΓ hc | exact h'
theorem wpC_cons {M : Model} (h : wpC M A (exec st env) (fun f s' => match f with | .next => wpC M A (execs rest env) Q E s' | f => Q f s') E s) : wpC M A (execs (st :: rest) env) Q E s := fun Γ p hΓ hc => by
 rw [execs_cons, Sem.wp_bind']
 refine Sem.wp_mono M Γ _ (fun f p' s' h' => ?_) (fun _ _ _ h' => h') _ _ (h Γ p hΓ hc)
 cases f <;> first | exact h' Γ p' hΓ hc | exact h'
theorem wpC_If {M : Model} {test : Expr} (h : wpAny M A (isTrue test env (eval test env)) (fun b sB => if b then wpC M A (execs body env) Q E sB else wpC M A (execs orelse env) Q E sB) E s) : wpC M A (exec (.If test body orelse pos) env) Q E s := fun Γ p hΓ hc => by
 simp only [exec_If, Sem.wp_bind', Sem.wp_cmd_standAt]
 refine Sem.wp_mono M Γ _ (fun b pB sB hBZ => ?_) (fun _ _ _ h' => h') _ _ (h Γ _ hΓ)
 cases b <;> exact hBZ Γ pB hΓ hc
theorem wpC_Assign {M : Model} {p' : Pos} {value : Expr} (h : wpC M A (eval value env) (fun v sA => wpAny M A (storeName env y v) (fun _ => Q .next) E sA) E s) (hs : autoParam (swapsWith value (some (.Name y p')) pos.line env = pure false) tA0) : wpC M A (exec (.Assign [.Name y p'] value pos) env) Q E s := fun Γ p hΓ hc => by
 simp only [exec_Assign_Name env y p' value pos hs, Sem.wp_bind', Sem.wp_cmd_standAt, Sem.wp_bindName, Sem.wp_pure']
 exact Sem.wp_mono M Γ _ (fun v _ sA hAZ => hAZ Γ _ hΓ) (fun _ _ _ h' => h') _ _ (h Γ _ hΓ hc)
theorem wpC_Return {M : Model} (h : wpC M A (eval e env) (fun v => Q (.ret v)) E s) : wpC M A (exec (.Return (some e) pos) env) Q E s := fun Γ p hΓ hc => by
 simp only [exec_Return_some, Sem.wp_bind', Sem.wp_cmd_standAt, Sem.wp_pure']; exact h Γ _ hΓ hc
theorem st_ifC {M : Model} {b : Bool} (he : EvT M A env s.heap e b) (h1 : b = true -> ∀ tk, wpC M A (execs body env) (fun f s' => match f with | .next => wpC M A (execs rest env) Q E s' | f => Q f s') E (Tk s tk))
  (h2 : b = false -> ∀ tk, wpC M A (execs orelse env) (fun f s' => match f with | .next => wpC M A (execs rest env) Q E s' | f => Q f s') E (Tk s tk)) : wpC M A (execs (.If e body orelse pos :: rest) env) Q E s := by
 refine wpC_cons (wpC_If (he s _ E rfl fun tk => ?_))
 cases b with
 | true => exact h1 rfl tk
 | false => exact h2 rfl tk
theorem st_assignC {pB : Pos} {M : Model} (F : Fr hZ L s.heap m) (N : News hZ L s.heap news) (he : EvC M A base env outer hZ L m news e X) (hE : Takes base env outer hZ L news X s E) (hs : autoParam (swapsWith e (some (.Name y pB)) pos.line env = pure false) tA0) :
  wpC M A (execs (.Assign [.Name y pB] e pos :: rest) env) Q E s := wpC_cons (wpC_Assign (he s _ E F N hE) hs)
theorem st_retC {M : Model} (F : Fr hZ L s.heap m) (N : News hZ L s.heap news) (he : EvC M A base env outer hZ L m news e X) (hE : Takes base env outer hZ L news X s E) : wpC M A (execs (.Return (some e) pos :: rest) env) Q E s := wpC_cons (wpC_Return (he s _ E F N hE))
end
section
variable {M : Model} {A : Around} {E : Value -> Shared -> Prop} {s : Shared} {K : Frag} {pos : Pos} {f : Value} {first : List Value} {Q : Value -> Shared -> Prop}
theorem wpC_keep {α : Type} {vs : List Value} {m : Sem α} {Q : α -> Shared -> Prop} (h : wpC M A m Q E s) : wpC M A (m.keep vs) Q E s := fun Γ p hΓ hc => by rw [Sem.wp_keep]; exact h Γ p hΓ hc
theorem callWithC {P : Heap -> Prop} {args : List (Bool × Sem Value)} {keywords : List (Option Str × Sem Value)} (hplain : (args.any (·.1) || keywords.any (·.1.isNone)) = false)
  (hk : ∀ h, P h -> ∃ k, (k = Keeper.frame ∨ k = Keeper.machine ∨ k = Keeper.boundFrame) /\ Looks M h (keeperOf f) k)
  (h : wpAny M A (evalArgs f true args keywords) (fun a sA => P sA.heap /\ wpC M A (call f (first ++ a.pos) a.kw) Q E sA) E s) : wpC M A (callWith pos f first args keywords) Q E s := by
 refine wpC_bindA (wpAny_holding (wpAny_mono h (fun a sA hAZ => ?_) fun _ _ x => x))
 refine wpC_bindA (wpAny_standAt ?_)
 obtain ⟨k, hk', L⟩ := hk _ hAZ.1
 rw [hplain]
 refine wpC_bindA (L.here ?_)
 have tail : ∀ {t : Sem Value}, wpC M A t Q E sA -> wpC M A (t >>= fun r => holding [r] point >>= fun _ => pure r) Q E sA :=
  fun ht => wpC_bind (wpC_mono ht (fun r sB hr => wpC_bindA (wpAny_holding (wpAny_point (wpC_pure hr)))) fun _ _ x => x)
 have marked (mk : Value) : wpC M A (callMarked mk f (first ++ a.pos) a.kw) Q E sA := wpC_keep hAZ.2
 rcases hk' with rfl | rfl | rfl
 ·exact iteInduction (motive := fun t => wpC M A t Q E sA) (fun _ => tail hAZ.2) fun _ => tail (marked _)
 ·exact tail hAZ.2
 ·exact iteInduction (motive := fun t => wpC M A t Q E sA) (fun _ => tail hAZ.2) fun _ => tail (marked _)
theorem codeC_meth {prog : Program} {w : World} {R : Result -> Shared -> Prop} {p : Addr} {f self : Value} {pos : List Value} {kw : List (Str × Value)} (ho : s.heap.get? p = some (methodObj f self))
  (h : codeC (model prog w) A (.call f ⟨self :: pos, kw⟩) R s) : codeC (model prog w) A (.call (.ref p) ⟨pos, kw⟩) R s := by
 obtain ⟨hh, g, dr, t, os⟩ := s
 refine codeC_of_tree (wpC_of ?_)
 show wpAny _ _ (callAny (.ref p) _) _ _ _
 dsimp only at ho
 refine nd_load ho ?_
 cases f <;> exact wpAny_pure ⟨rfl, h⟩
end
section
variable {w : World} {A : Around} {env : Env} {base hZ : Heap} {outer : List Env} {L : Addr} {m : Str -> Option Value} {news newsZ : List (Addr × Obj)} {e eAZ : Expr} {es : List Expr} {X x : String} {D U : Nat} {RL : List Value -> Prop} {pos pA pB kp : Pos} {s : Shared} {E : Value -> Shared -> Prop} {Q : Flow -> Shared -> Prop} {rest : List Stmt} {y : Str}
theorem EvC.fn {f : Addr} (a : AtX w A base env outer hZ L D U) (hf : ∀ h, Fr hZ L h m -> News hZ L h news -> Ev (model pg w) A env h eAZ (· = .ref f)) (hk : keepIn (KK w.params) (.ref f) = true)
  (he : ∀ h, Fr hZ L h m -> News hZ L h news -> EvL (model pg w) A env h (e :: es) RL) (G : ∀ vs, RL vs -> GivesC w f D U vs [] news X)
  (hs : autoParam (starEach (e :: es) env = (false, eval e env) :: starEach es env) tA0) (hn : autoParam (((backTo pos (starEach es env)).any fun x => x.1) = false) tA0)
  (hc : autoParam (eval (.Call eAZ (e :: es) [] pos) env = (do let f <- eval eAZ env; callWith pos f [] (backTo pos (starEach (e :: es) env)) (backToKw pos (keywordEach [] env)))) tA0) :
  EvC (model pg w) A base env outer hZ L m news (.Call eAZ (e :: es) [] pos) X := fun s Q E F N hE => by
 rw [hc]
 refine wpC_bindA (hf _ F N s _ E rfl fun v tk hv => ?_)
 subst hv
 have he' := he _ F N (Tk s tk)
 rw [hs] at he' ⊢
 refine callWithC (P := fun h => (KK w.params).In h) (by show ((false || (backTo pos (starEach es env)).any fun x => x.1) || _) = false; rw [hn]; rfl) (keeps_K hk) (Calls.evalArgs_plain (he' _ E pos rfl fun vs tk' hvs => ⟨a.at_.K.keeps F.keep, ?_⟩))
 exact wpC_call (G vs hvs A base env outer hZ L m (Tk s tk') _ a F N fun b h' tk hR => hE b h' tk m news (fun _ h => h) hR)
theorem EvC.cm {pl : Sem Bool} {nm : Str} {fa pa : Addr} {rs : List Value} (a : AtX w A base env outer hZ L D U) (h1 : ∀ h, Fr hZ L h m -> News hZ L h news -> Ev (model pg w) A env h eAZ (· = .ref 418))
  (he : ∀ q f h, Fr hZ L h m -> News hZ L h ((q, methodObj f (.ref 418)) :: news) -> EvL (model pg w) A env h (e :: es) RL)
  (G : ∀ q vs, RL vs -> GivesC w fa D U (.ref 418 :: vs) [] ((q, methodObj (.ref fa) (.ref 418)) :: news) X)
  (hg : specialIn (KK w.params) (.ref 418) "__getattribute__" = some (some (.builtin "type.__getattribute__"))) (hm : typeIn (KK w.params) (.ref 418) = some (.type "type")) (hr : readsIn (KK w.params) 418 (.type "type") = true)
  (hf : findCls (KK w.params) (.ref 418) (.type "type") nm = some (.get (.builtin "classmethod.__get__") (.ref pa) .none (.ref 418))) (hp : recIn (KK w.params) pa "classmethod" = some (.ref fa :: rs)) (hfn : fnIn (KK w.params) fa = true)
  (hs : autoParam (starEach (e :: es) env = (false, eval e env) :: starEach es env) tA0) (hnn : autoParam (((backTo pB (starEach es env)).any fun x => x.1) = false) tA0)
  (hc : autoParam (eval (.Call (.Attribute eAZ nm pA) (e :: es) [] pB) env = (do
   let ov <- eval eAZ env
   standAt pA.atName
   let (f, first) <- holding [ov] (getMethod ov nm pl)
   callWith pB f first (backTo pB (starEach (e :: es) env)) [])) tA0) : EvC (model pg w) A base env outer hZ L m news (.Call (.Attribute eAZ nm pA) (e :: es) [] pB) X := fun s Q E F N hE => by
 rw [hc]
 refine wpC_bindA (h1 _ F N s _ E rfl fun v tk hv => ?_)
 subst hv
 refine wpC_bindA (wpAny_standAt ?_)
 refine wpC_bindA (wpAny_holding (method_of_cls (K := KK w.params) (s := (Tk s tk)) F a.at_.K hg (cls_cm (s := (Tk s tk)) F a.at_.K N hm hr hf hp fun q h2 F2 N2 lt => ?_)))
 dsimp only
 have he' := he q (.ref fa) h2 F2 N2 (St s h2 (tk + 1))
 rw [hs] at he' ⊢
 refine callWithC (P := MethP (KK w.params) q fa (.ref 418)) (by show ((false || (backTo pB (starEach es env)).any fun x => x.1) || _) = false; rw [hnn]; rfl) (keeps_M hfn) (Calls.evalArgs_plain (he' _ E pB rfl fun vs tk' hvs => ⟨methP N2 (.head _) (a.at_.K.keeps F2.keep), ?_⟩))
 refine wpC_call (codeC_meth (N2 _ (.head _)).1 ?_)
 exact G q vs hvs A base env outer hZ L m (St s h2 tk') _ a F2 N2 fun b h' tk2 hR => hE b h' tk2 m _ (fun _ h => .tail _ h) hR
theorem EvC.kwArg {f : Addr} (h1 : ∀ h, Fr hZ L h m -> News hZ L h news -> Ev (model pg w) A env h eAZ (· = .ref f)) (he : ∀ d, EvC (model pg w) A base env outer hZ L m ((d, emptyDict) :: news) e X)
  (hc : autoParam (eval (.Call eAZ [] [⟨Option.none, e, kp⟩] pos) env = (do let f <- eval eAZ env; callWith pos f [] (backTo pos (starEach [] env)) (backToKw pos (keywordEach [⟨Option.none, e, kp⟩] env)))) tA0)
  (hkw : autoParam (backToKw pos (keywordEach [⟨Option.none, e, kp⟩] env) = [(Option.none, eval e env >>= fun v => standAt pos >>= fun _ => pure v)]) tA0) :
  EvC (model pg w) A base env outer hZ L m news (.Call eAZ [] [⟨Option.none, e, kp⟩] pos) X := fun s Q E F N hE => by
 refine wqC hc (wpC_bindA (h1 _ F N s _ E rfl fun v tk hv => ?_))
 subst hv
 refine wqC (congrArg (callWith pos (.ref f) [] _) hkw) (wpC_bind (wpC_holding ?_))
 refine wpC_bindA (wpAny_bind (wpAny_pure (wpAny_pure ?_)))
 refine wpC_bindA (wpAny_pure ?_)
 refine wpC_holding ?_
 dsimp only
 rw [if_neg (by simp)]
 unfold mergedKeywords
 refine wpC_bind (wpC_bindA (wpAny_alloc ?_))
 have F1 := F.push emptyDict
 have N1 := News.push F N emptyDict
 refine wpC_bind (wpC_holding (wpC_bind ?_))
 dsimp only
 rw [List.forIn_cons]
 refine wpC_bind (wpC_bindA (wpAny_pure (wpC_bind (wpC_bind ?_))))
 exact he _ _ _ _ F1 N1 (hE.more (fun q hq => .tail _ hq))
end
section
variable {M : Model} {A : Around} {E : Value -> Shared -> Prop} {s : Shared} {env : Env} {R : Result -> Shared -> Prop}
theorem wpC_Try_except {body orelse : List Stmt} {hZ : ExceptHandler} {hs : List ExceptHandler} {pos : Pos} {Q : Flow -> Shared -> Prop}
  (h : wpC M A (execs body env) (fun f sA => match f with | .next => wpAny M A (execs orelse env) Q E sA | f => Q f sA)
   (fun e sA => wpAny M A (noteFrame e env) (fun _ sB => wpAny M A (setFlight e none) (fun _ sC => wpAny M A (handleBy e env (hZ :: hs)) Q E sC) E sB) E sA) s) : wpC M A (exec (.Try body (hZ :: hs) orelse [] pos) env) Q E s := by
 rw [arm_exec_Try]
 refine wpC_bindA (wpAny_standAt ?_)
 have hat : wpC M A (execs body env).attempt (fun x sA => match x with
   | .ok .next => wpAny M A (execs orelse env) Q E sA
   | .ok f => Q f sA
   | .error e => wpAny M A (noteFrame e env) (fun _ sB => wpAny M A (setFlight e none) (fun _ sC => wpAny M A (handleBy e env (hZ :: hs)) Q E sC) E sB) E sA) E s := fun Γ p hΓ hc => by
  rw [Sem.wp_attempt]
  exact Sem.wp_mono M Γ _ (fun f _ sA hAZ => by cases f <;> exact hAZ) (fun _ _ _ hAZ => hAZ) p s (h Γ p hΓ hc)
 refine wpC_bind (m := (execs body env).attempt) (wpC_mono hat (fun x sA hAZ => ?_) fun _ _ y => y)
 cases x with
 | ok f => cases f <;> first | exact wpC_of hAZ | exact wpC_pure hAZ
 | error e => exact wpC_of (wpAny_bind (wpAny_mono hAZ (fun _ _ hBZ => wpAny_bind hBZ) fun _ _ x => x))
theorem wpC_runOwn {c : Code} {h : Option Value} {Q : Flow -> Shared -> Prop} (hc : codeC M (A.mark h) c (fun r s' => match r with | .ok f => Q f s' | .error e => cameBackBy M A env E e s') s) (hnb : h ≠ some byPass) : wpC M A (runOwn c env h) Q E s := by
 unfold runOwn
 exact wpC_onRaise (wpC_run hc hnb)
theorem wpC_For {target : Expr} {iter : Expr} {body orelse : List Stmt} {pos : Pos} {Q : Flow -> Shared -> Prop}
  (h : wpAny M A (eval iter env) (fun x sA => wpAny M A (pyIter x) (fun it sB => codeC M A (.forLoop target it body orelse env) (fun r s' => match r with | .ok f => Q f s' | .error e => cameBackBy M A env E e s') sB) E sA) E s)
  (hs : autoParam (∀ x, foldedSetIterable iter env x = pure x) tA2) : wpC M A (exec (.For target iter body orelse pos) env) Q E s := by
 rw [exec_For]
 refine wpC_bindA (wpAny_standAt (wpC_bindA (wpAny_mono h (fun x sA hAZ => ?_) fun _ _ y => y)))
 refine wpC_bindA (wpAny_of_eq (hs x) (wpC_bindA (wpAny_standAt (wpC_bindA (wpAny_holding (wpAny_mono hAZ (fun it sB hBZ => ?_) fun _ _ y => y))))))
 exact wpC_runOwn hBZ (by intro x; cases x)
theorem wpC_noted {α : Type} {m : Sem α} {Q : α -> Shared -> Prop} (h : wpC M A m Q (notedBy M A env E) s) : wpC M A (m.onRaise fun x => do noteFrame x env; theTreesLotGoes x) Q E s :=
 wpC_onRaise (wpC_mono h (fun _ _ q => q) fun _ _ hx => wpAny_bind (wpAny_mono hx (fun _ _ e => wpAny_theTreesLotGoes e) fun _ _ e => e))
theorem codeC_loop {c : Code} (hq : c.quiet = true) (I : Nat -> Shared -> Prop)
  (turn : ∀ n s, I n s -> wpC M (A.under c) (M.den c) (fun fin s' => match fin with | .done f => R (.ok f) s' | .again c' => (c' = c /\ ∃ m, m < n /\ I m s') ∨ (c'.quiet = true /\ codeC M A c' R s')) (fun e s' => R (.error e) s') s)
  (n : Nat) (h : I n s) : codeC M A c R s := by
 induction n using Nat.strongRecOn generalizing s with
 | ind n ih =>
  refine codeC_of_tree (wpC_mono (turn n s h) (fun fin s' hf => ?_) fun _ _ h' => h')
  cases fin with
  | done f => exact hf
  | again c' =>
   rcases hf with ⟨rfl, m, hm, hI⟩ | hf
   ·exact ⟨hq, ih m hm hI⟩
   ·exact hf
end
section
variable {prog : Program} {w : World} {A : Around} {E : Value -> Shared -> Prop} {s : Shared} {env : Env} {R : Result -> Shared -> Prop}
theorem codeC_forLoop {target : Expr} {it : Value} {body orelse : List Stmt} (I : Nat -> Shared -> Prop)
  (turn : ∀ n s, I n s -> wpC (model prog w) A (pyNext it) (fun r sA => match r with
   | none => wpAny (model prog w) A (execs orelse env) (fun f sC => R (.ok f) sC) (notedBy (model prog w) A env fun e s' => R (.error e) s') sA
   | some v => wpAny (model prog w) A (assign target env v) (fun _ sB => wpC (model prog w) A (execs body env) (fun f sC => match f with
     | .next | .cont => ∃ m, m < n /\ I m sC
     | .brk => R (.ok .next) sC
     | .ret v => R (.ok (.ret v)) sC) (notedBy (model prog w) A env fun e s' => R (.error e) s') sB) (notedBy (model prog w) A env fun e s' => R (.error e) s') sA) (notedBy (model prog w) A env fun e s' => R (.error e) s') s)
  (n : Nat) (h : I n s) (ht : autoParam (∀ v, letOwnedTupleGo target it v = pure ()) tA2) : codeC (model prog w) A (.forLoop target it body orelse env) R s := by
 refine codeC_loop rfl I (fun n s hI => ?_) n h
 show wpC _ _ ((forTurn target it body orelse env).onRaise (fun x => do noteFrame x env; theTreesLotGoes x)) _ _ s
 refine wpC_noted ?_
 refine wpC_bindA (wpAny_standAt (wpC_bind ?_))
 refine wpC_onRaise (wpC_mono (turn n s hI) (fun r sA hAZ => ?_) fun _ _ h' => wpAny_standAt h')
 cases r with
 | none => exact wpC_pure (.inr ⟨rfl, codeC_of (codeAny_block hAZ)⟩)
 | some v =>
  refine wpC_bindA (wpAny_of_eq (ht v) ?_)
  refine wpC_bindA (wpAny_mono hAZ (fun _ sB hBZ => wpC_bind (wpC_mono hBZ (fun f sC hCZ => ?_) fun _ _ h' => h')) fun _ _ h' => h')
  cases f with
  | next => exact wpC_pure (.inl ⟨rfl, hCZ⟩)
  | cont => exact wpC_pure (.inl ⟨rfl, hCZ⟩)
  | brk => exact wpC_pure hCZ
  | ret v => exact wpC_pure hCZ
end
structure Bad (x : Str) : Prop where
 num : (int_private% "readNumeral") 0 10 (numSeenOf x) = int_private% "Numeral.invalid"
 len : x.length <= 640
 rep : (PySem.reprText x).length <= 1000
section
variable {w : World} {A : Around} {env : Env} {s : Shared} {E : Value -> Shared -> Prop} {Q : Value -> Shared -> Prop} {pos pA : Pos} {eB : Expr} {x : Str}
theorem int_c (hh : A.handled = none) (G : Gl w s.heap) (he : Ev (model pg w) A env s.heap eB (IsS x)) (bad : Bad x) (hE : ∀ vs h' tk e, Heap.MadeExc s.heap h' e "ValueError" vs -> E (.ref e) (St s h' tk))
  (hg : autoParam (env.globals = mainGlobals) tA0) (hbl : autoParam (env.builtins = builtinsNs) tA0) (hk : autoParam (env.scope.kind = .function) tA0) (hx : autoParam (env.kindOf (oS "int") = some .globalImplicit) tA0)
  (hs : autoParam (starEach [eB] env = (false, eval eB env) :: starEach [] env) tA0) (hnn : autoParam (((backTo pos (starEach [] env)).any fun x => x.1) = false) tA0)
  (hc : autoParam (eval (.Call (.Name (oS "int") pA) [eB] [] pos) env = (do let f <- eval (.Name (oS "int") pA) env; callWith pos f [] (backTo pos (starEach [eB] env)) (backToKw pos (keywordEach [] env)))) tA0) : wpC (model pg w) A (eval (.Call (.Name (oS "int") pA) [eB] [] pos) env) Q E s := by
 rw [hc]
 refine wpC_bindA (Ev.built G (gint _) (by rfl) (by decide) hg hbl hk hx (by decide) s _ _ rfl fun v tk hv => ?_)
 subst hv
 have he' := EvL.one he hs (Tk s tk)
 rw [hs] at he' ⊢
 refine callWithC (P := fun _ => True) (by show ((false || (backTo pos (starEach [] env)).any fun x => x.1) || _) = false; rw [hnn]; rfl) (fun h _ => ⟨.machine, .inr (.inl rfl), Looks.now⟩) (Calls.evalArgs_plain (he' _ E pos rfl fun vs tk' hvs => ⟨trivial, ?_⟩))
 obtain ⟨v, rfl, t, rfl⟩ := hvs
 exact call_refuses hh bad.len bad.num bad.rep fun vs h' tk2 e hm => hE vs h' tk2 e hm
end
theorem parse_time_bad (w : World) (news : List (Addr × Obj)) {x : Str} {t : Tok} (bad : Bad x) : GivesC w 239 1 3 [.str x t] [] news "ValueError" := by
 refine enterC 0 0 [(oS "value", .str x t)] (fun A base outer g L s m R' a F hm N ok => ?_)
 have e1 := hm _ (.head _)
 refine wpC_cons (wpC_Try_except (wpC_cons (wpC_Return (int_c a.at_.hh (a.at_.gl.keeps F.keep) (Ev.nmS F e1) bad fun vs h' tk e hmade => ?_))))
 obtain ⟨t0, he, htn, ht⟩ := hmade.there
 refine up_made (X := "ValueError") (c := .none) a rfl F N hmade.keeps hmade.new he rfl rfl rfl rfl rfl htn ht fun h1 x1 _ => ?_
 refine caught_up a x1 (fun q hq => (N q hq).2.2) (by k_is) PyProof.Rows.Boot.«ValueError» (by decide) PySem.F.isExc_ValueError PySem.F.notTuple_ValueError PySem.F.self_ValueError (fun h2 g2 tk2 a2 F2 N2 U2 x2 => ?_)
 refine wpAny_execs_cons (wpAny_Pass ?_)
 refine wpAny_execs_nil (wpC_of ?_)
 exact st_raise PySem.F.excCall_ValueError PySem.F.excRaise_ValueError a2 (ok.up U2) (fun q hq => hq) F2 N2 (by k_is) PyProof.Rows.Boot.«ValueError» (by decide) (evL_mono (EvL.one Ev.str) fun vs ⟨_, h, _⟩ => by rw [h]; rfl)
theorem note_frame_eq {e : Value} {c env : Env} (h : c.frame = env.frame) : noteFrame e c = noteFrame e env := by
 unfold noteFrame PySem.frameOf
 rw [h]
section
variable {M : Model} {A : Around} {E : Value -> Shared -> Prop} {s : Shared} {env : Env} {R : Result -> Shared -> Prop}
theorem wpC_notedAt {α : Type} {m : Sem α} {pos : Pos} {Q : α -> Shared -> Prop} (h : wpC M A m Q (notedBy M A env E) s) : wpC M A (m.onRaise fun x => do noteFrame x env; standAt pos) Q E s :=
 wpC_onRaise (wpC_mono h (fun _ _ q => q) fun _ _ hx => wpAny_bind (wpAny_mono hx (fun _ _ e => wpAny_standAt e) fun _ _ e => e))
end
section
variable {prog : Program} {w : World} {A : Around} {E : Value -> Shared -> Prop} {s : Shared} {env : Env} {R : Result -> Shared -> Prop}
theorem codeC_compStart {elt target iter : Expr} {scope : Scope} {pos : Pos} {it acc : Value}
  (h0 : codeC (model prog w) A (.compLoop (.ListComp elt [⟨target, iter, [], 0⟩] scope pos) 0 it acc env) R s)
  (h : wpAny (model prog w) A (pyIter it) (fun it' s' => it' = it /\ s' = s) (notedBy (model prog w) A env fun x s' => R (.error x) s') s) :
  codeC (model prog w) A (.compStart (.ListComp elt [⟨target, iter, [], 0⟩] scope pos) 0 it acc env) R s := by
 refine codeC_of_tree ?_
 show wpC _ _ ((compStart (.ListComp elt [⟨target, iter, [], 0⟩] scope pos) 0 it acc env).onRaise (fun x => do noteFrame x env; standAt theWindowsPlace)) _ _ s
 refine wpC_notedAt ?_
 unfold compStart
 show wpC _ _ (ask >>= _) _ _ s
 refine wpC_bindA (wpAny_askSetting ?_)
 split
 ·exact wpC_pure (And.intro rfl h0)
 ·refine wpC_bindA (wpAny_rule ?_)
  show wpC _ _ (standAt iter.pos >>= _) _ _ s
  refine wpC_bindA (wpAny_standAt (wpC_bindA (wpAny_mono h (fun it' s' h' => ?_) fun _ _ x => x)))
  obtain ⟨rfl, rfl⟩ := h'
  exact wpC_pure (And.intro rfl h0)
theorem codeC_compFirst {elt target iter : Expr} {scope : Scope} {pos : Pos} {it acc : Value}
  (turn : wpAny (model prog w) A (pyNext it) (fun r sA => match r with
   | none => False
   | some v => wpAny (model prog w) A (assign target env v) (fun _ sB => wpC (model prog w) A (eval elt env) (fun _ _ => False) (notedBy (model prog w) A env fun e s' => R (.error e) s') sB) (notedBy (model prog w) A env fun e s' => R (.error e) s') sA) (notedBy (model prog w) A env fun e s' => R (.error e) s') s)
  (ht : autoParam (∀ v, letOwnedTupleGo target it v = pure ()) tA2) : codeC (model prog w) A (.compLoop (.ListComp elt [⟨target, iter, [], 0⟩] scope pos) 0 it acc env) R s := by
 refine codeC_of_tree ?_
 show wpC _ _ ((compTurn (.ListComp elt [⟨target, iter, [], 0⟩] scope pos) 0 it acc env).onRaise (fun x => do noteFrame x env; theTreesLotGoes x)) _ _ s
 refine wpC_noted ?_
 rw [compTurn_list1]
 refine wpC_bindA (wpAny_standAt (wpC_bindA (wpAny_mono turn (fun r sA hAZ => ?_) fun _ _ h' => h')))
 cases r with
 | none => exact hAZ.elim
 | some v =>
  refine wpC_bindA (wpAny_of_eq (ht v) ?_)
  exact wpC_bindA (wpAny_mono hAZ (fun _ sB hBZ => wpC_bind (wpC_bind (wpC_mono hBZ (fun x sC hCZ => hCZ.elim) fun _ _ h' => h'))) fun _ _ h' => h')
end
theorem frames_but {B h h' : Heap} {C : Addr} (hs : Heap.SameBut C h h') {l : List Env} (a : h.FunFrames B l) (hC : ∀ env ∈ l, env.frame ≠ some C) : h'.FunFrames B l := by
 induction l with
 | nil => trivial
 | cons env l ih =>
  obtain ⟨hk, ⟨L, o, hf, hn, ho, hd⟩, hr⟩ := a
  exact ⟨hk, ⟨L, o, hf, hn, (hs.2 L fun q => hC env (.head _) (by rw [hf, q])).trans ho, hd⟩, ih hr fun e he => hC e (.tail _ he)⟩
theorem frames_less {B B' h : Heap} (hb : ∀ b, B.get? b = none -> B'.get? b = none) {l : List Env} (a : h.FunFrames B l) : h.FunFrames B' l := by
 induction l with
 | nil => trivial
 | cons env l ih =>
  obtain ⟨hk, ⟨L, o, hf, hn, ho, hd⟩, hr⟩ := a
  exact ⟨hk, ⟨L, o, hf, hb L hn, ho, hd⟩, ih hr⟩
theorem hide_none {h : Heap} {l : List Addr} {b : Addr} (hb : h.get? b = none) : (hideAll h l).get? b = none := by
 cases q : (hideAll h l).get? b with
 | none => rfl
 | some o => have := of_hideAll _ q; rw [hb] at this; cases this
theorem hide_ne {h : Heap} {C b : Addr} {o : Obj} (hb : (hideAll h [C]).get? b = some o) : b ≠ C /\ h.get? b = some o := by
 refine ⟨fun q => ?_, of_hideAll _ hb⟩
 rw [q, hideAll_none _ (.head _)] at hb; cases hb
theorem up_but {base hZ : Heap} {env : Env} {outer : List Env} {L : Addr} {m mC : Str -> Option Value} {news : List (Addr × Obj)} {X : String} {e C : Addr} {c fl : Value} {h5 h6 : Heap} (x : Up base env outer hZ L m news X e c fl h5) (hC : hZ.get? C = none) (hbC : base.get? C = none) (hLC : L ≠ C) (hnC : ∀ q ∈ news, q.1 ≠ C) (hfC : ∀ env' ∈ env :: outer, env'.frame ≠ some C)
  (hn5 : h5.Ns C mC) (hs : Heap.SameBut C h5 h6) : Up base env outer hZ L m news X e c fl h6 := by
 obtain ⟨g, B, t, vs, F, hu, hB, hl, hot, ht, htup⟩ := x
 obtain ⟨oC, es, ep, hoC, hdC, _⟩ := hn5
 have hB' : ∀ b o, (hideAll B [C]).get? b = some o -> b ≠ C /\ B.get? b = some o := fun b o q => hide_ne q
 obtain ⟨oe, ws, T, oT, ts, h1, h2, h3, h4, h5', h6', h7, h8, h9, h10⟩ := hot.tr
 have heC : e ≠ C := fun q => by rw [q, hoC] at h1; rw [<- Option.some.inj h1, hdC] at h3; cases h3
 have hTC : T ≠ C := fun q => by rw [q, hoC] at h7; rw [<- Option.some.inj h7, hdC] at h8; cases h8
 have htC : t ≠ C := fun q => by
  obtain ⟨o, n, ho, _, hd⟩ := htup
  rw [q, hoC] at ho; rw [<- Option.some.inj ho, hdC] at hd; cases hd
 refine ⟨hideAll g [C], hideAll B [C], t, vs, ⟨F.ns.at' fun o q => hideAll_get _ q (fun z => hLC (zS.mp z)), fun b o q => hideAll_get _ (F.keep b o q) fun z => ?_, F.above⟩, fun b o q hnf => ?_, fun b o q => hideAll_get _ (hB b o q) fun z => ?_, fun q hq => ⟨hideAll_get _ (hl q hq).1 fun z => hnC q hq (zS.mp z), (hl q hq).2⟩, ⟨fun b o q => ?_, hide_none hot.fresh, frames_less (fun b hb => hide_none hb) (frames_but hs hot.frames hfC), ?_⟩, hide_none ht, ?_⟩
 ·rw [zS.mp z, hC] at q; cases q
 ·obtain ⟨hbc, hq⟩ := hide_ne q
  obtain ⟨sl, hsl⟩ := hu b o hq hnf
  exact ⟨sl, (hs.2 b hbc).trans hsl⟩
 ·rw [zS.mp z, hbC] at q; cases q
 ·obtain ⟨hbc, hq⟩ := hide_ne q
  exact (hs.2 b hbc).trans (hot.stays b o hq)
 ·exact ⟨oe, ws, T, oT, ts, (hs.2 e heC).trans h1, h2, h3, h4, hide_none h5', h6', (hs.2 T hTC).trans h7, h8, h9, h10⟩
 ·obtain ⟨o, n, ho, r⟩ := htup
  exact ⟨o, n, (hs.2 t htC).trans ho, r⟩
section
variable {w : World} {A : Around} {env : Env} {base hZ : Heap} {outer : List Env} {L : Addr} {m : Str -> Option Value} {news : List (Addr × Obj)} {D U : Nat} {s : Shared} {E : Value -> Shared -> Prop} {Q : Value -> Shared -> Prop} {elt iter : Expr} {x : Str} {px pos : Pos} {scope : Scope} {P : List Value -> Prop}
theorem comp_c (a : AtX w A base env outer hZ L D U) (hit : EvN (model pg w) A env hZ L m news iter (NewL P)) (hz : ∀ items, P items -> ∃ v rest, items = v :: rest) (F : Fr hZ L s.heap m) (N : News hZ L s.heap news)
  (helt : ∀ items C mCZ v (sC : Shared) (E' : Value -> Shared -> Prop), P items -> items.head? = some v -> Gl w sC.heap -> sC.heap.Ns C mCZ -> mCZ x = some v -> (∀ vs h' tk e, Heap.MadeExc sC.heap h' e "ValueError" vs -> E' (.ref e) (St sC h' tk)) -> wpC (model pg w) A (eval elt (compEnv scope C env)) (fun _ _ => False) E' sC)
  (hE : ∀ e h' tk, Up base env outer hZ L m news "ValueError" e .none (rawInt L) h' -> E (.ref e) (St s h' tk))
  (hfree : autoParam (∀ y ∈ scope.names, y.2 ≠ .free) tA1) (hcell : autoParam (∀ y ∈ scope.names, y.2 ≠ .cell) tA1) (hkind : autoParam (scope.kind = .function) tA0)
  (hnames : autoParam (∀ y ∈ scope.names, y.2 = .local -> scope.names.lookup y.1 = some .local) tA1) (hx : autoParam (scope.names.lookup x = some .local) tA0) (hs : autoParam (∀ x, foldedSetIterable iter env x = pure x) tA2) :
  wpC (model pg w) A (eval (.ListComp elt [⟨.Name x px, iter, [], 0⟩] scope pos) env) Q E s := by
 rw [eval_ListComp]
 unfold comprehension
 rw [closureFor_none hfree]
 refine wpC_bindA (hit s _ _ F N fun v new0 g tk hv hlx F1 N1 => ?_)
 obtain ⟨l, items, n0, new1, rfl, rfl, hP0⟩ := hv
 obtain ⟨v0, itr, rfl⟩ := hz _ hP0
 have hl : g.IsList l (v0 :: itr).toArray := N1.isList (.head _)
 refine wpC_bindA (wpAny_standAt ?_)
 refine wpC_bindA (wpAny_of_eq (hs _) ?_)
 refine wpC_bindA (wpAny_holding (wpAny_pyIter_list (s := (St s g tk)) hl ?_))
 refine wpC_ite_false (by simp) ?_
 refine wpC_bindA (wpAny_newObj_type ?_ (by size_fits))
 refine wpC_bindA (wpAny_pure ?_)
 refine wpC_bindA (wpAny_newFunctionEnv hcell (by intro y hy; simp at hy) (fun hAZ hnsA hsbA => ?_) hkind)
 dsimp only at hnsA hsbA ⊢
 rw [map_eq_self (l := scope.names) (fun x hx => by
  obtain ⟨n, k⟩ := x
  have : (k == NameKind.free) = false := by simpa using hfree _ hx
  simp [this])]
 refine wpC_holding (wpC_bind (wpC_attempt (wpC_holding (wpC_run ?_ (by intro x; cases x)))))
 have hmk : A.mark none = A := rfl
 rw [hmk]
 generalize hI : ({ cls := .type "list_iterator", data := .fields #[.ref l, .int 0 0] } : Obj) = oI at *
 generalize hH1 : g.push oI = H1 at *
 generalize hH2 : H1.push { cls := .type "list", data := .seq #[] } = H2 at *
 generalize hC : H2.objs.size = C at *
 show codeC (model pg w) A (.compStart _ 0 _ _ (compEnv scope C env)) _ _
 -- the heaps
 have sz1 : H1.objs.size = g.objs.size + 1 := by rw [<- hH1, Heap.size_push]
 have sz2 : C = g.objs.size + 2 := by rw [<- hC, <- hH2, Heap.size_push, sz1]
 have keep1 : ∀ b o, H2.get? b = some o -> hAZ.get? b = some o := fun b o e => hsbA.extBut b o (fun q => by have := Heap.lt_size e; rw [q, <- hC] at this; exact absurd this (Nat.lt_irrefl _)) (Heap.get?_push_of_some _ e)
 have keep : ∀ b o, g.get? b = some o -> hAZ.get? b = some o := fun b o e => keep1 b o (by rw [<- hH2, <- hH1]; exact Heap.get?_push_of_some _ (Heap.get?_push_of_some _ e))
 have gnC : g.get? C = none := Heap.get?_none_of_le (by omega)
 have hlt : l < g.objs.size := by obtain ⟨_, e, _⟩ := hl; exact Heap.lt_size e
 have hIter : hAZ.IsListIter g.objs.size l 0 := by
  refine ⟨oI, keep1 _ _ ?_, ?_, ?_⟩
  ·rw [<- hH2, <- hH1]; exact Heap.get?_push_of_some _ (Heap.get?_push_size _ (by rw [<- hI]; rfl))
  ·rw [<- hI]
  ·rw [<- hI]; rfl
 have hl1 : hAZ.IsList l (v0 :: itr).toArray := by obtain ⟨o, e, r⟩ := hl; exact ⟨o, keep _ _ e, r⟩
 refine codeC_compStart (codeC_compFirst ?_) (wpAny_pyIter_listiter hIter ⟨rfl, rfl⟩)
 refine (Walks.list a.at_.hh g.objs.size l (Nat.ne_of_lt hlt) (v0 :: itr).toArray).item 0 _ _ _ (by simp) ⟨hIter, hl1⟩ fun v hBZ tkB hPV _ hkB => ?_
 obtain rfl : v0 = v := by simpa using hPV
 have hCI : C ≠ g.objs.size := by omega
 have off : ∀ b, b ≠ g.objs.size -> ∀ o, hAZ.get? b = some o -> hBZ.get? b = some o := fun b hb o e => hkB b o (fun q => hb (zS.mp q)) e
 have hnsB : hBZ.Ns C _ := hnsA.at' fun o e => off C hCI o e
 refine wpAny_assign_Name (wpAny_storeName_local (env := compEnv scope C env) hx hnsB (fun hCZ hnCZ hsC => ?_) (by show (scope.kind == .class || (scope.kind == .module && C != env.globals)) = false; rw [hkind]; rfl))
 have keep3 : ∀ b o, b ≠ g.objs.size -> b ≠ C -> hAZ.get? b = some o -> hCZ.get? b = some o := fun b o h1 h2 e => (hsC.2 b h2).trans (off b h1 o e)
 have keepg : ∀ b o, g.get? b = some o -> hCZ.get? b = some o := fun b o e => keep3 b o (Nat.ne_of_lt (Heap.lt_size e)) (fun q => by rw [q, gnC] at e; cases e) (keep b o e)
 refine helt _ C _ v0 _ _ hP0 rfl (a.at_.gl.keeps fun b o e => keepg b o (F1.keep b o e)) hnCZ (by simp) fun vs h' tk' e hm => ?_
 show wpAny _ _ (noteFrame (.ref e) (compEnv scope C env)) _ _ _
 rw [note_frame_eq (c := compEnv scope C env) (env := env) rfl]
 obtain ⟨t0, he, htn, ht⟩ := hm.there
 dsimp only at hm htn
 have hLC : L ≠ C := fun q => absurd F1.ns.lt (by rw [q, sz2]; exact Nat.not_lt.mpr (Nat.le_add_right _ _))
 have hIg : hZ.get? C = none := by
  cases q : hZ.get? C with
  | none => rfl
  | some o => have := F1.keep _ _ q; rw [gnC] at this; cases this
 have F3 : Fr hZ L (hideAll hCZ [C]) m := ⟨F1.ns.at' fun o e => hideAll_get _ (keepg _ o e) fun q => hLC (zS.mp q), fun b o q => hideAll_get _ (keepg b o (F1.keep b o q)) fun z => (by rw [zS.mp z, hIg] at q; cases q), F1.above⟩
 have hnC : ∀ q ∈ news, q.1 ≠ C := fun q hq z => by have := (N1 q (zR _ hq)).1; rw [z, gnC] at this; cases this
 have N3 : News hZ L (hideAll hCZ [C]) news := fun q hq => ⟨hideAll_get _ (keepg _ _ (N1 q (zR _ hq)).1) fun z => hnC q hq (zS.mp z), (N1 q (zR _ hq)).2⟩
 refine up_made (h := hideAll hCZ [C]) (X := "ValueError") (c := .none) a rfl F3 N3 (fun b o q => hm.keeps b o (of_hideAll _ q)) (hide_none hm.new) he rfl rfl rfl rfl rfl (hide_none htn) ht fun h5 x5 hu5 => ?_
 dsimp only
 have hn5 := hu5.ns (hnCZ.keeps hm.keeps)
 refine wpC_of (wpAny_bind (wpAny_holding (wpAny_comp_letGo (cenv := compEnv scope C env) hkind _ _ _ (fun x hx hl => hnames x (List.mem_filter.mp (List.mem_reverse.mp hx)).1 hl) hn5 fun h6 m6 hn6 hs6 => ?_)))
 have frs := a.frs F1
 have x6 := up_but x5 hIg (fresh_of_stays a.bst hIg) hLC hnC (fun env' he' q => by
  obtain ⟨o, ho, _⟩ := (frs.mem (List.mem_filterMap.mpr ⟨env', he', q⟩)).2
  rw [gnC] at ho; cases ho) hn5 hs6
 unfold PySem.passOn
 obtain ⟨g', B, t, vs', _, _, _, _, hot, _, _⟩ := id x6
 obtain ⟨oe, ws, T, oT, ts, hoe, _, hdw, h1w, _⟩ := hot.tr
 refine wpAny_bind (wpAny_field hoe hdw h1w ?_)
 rw [if_neg (by simp)]
 show wpAny _ _ (setFlight (.ref e) env.frame >>= fun _ => throw (.ref e)) _ _ _
 rw [a.at_.fr]
 exact wpAny_bind (up_flight (f' := some L) x6 fun h7 x7 => wpAny_throw (hE e h7 _ x7))
end
section
variable {prog : Program} {w : World} {A : Around} {env : Env} {h : Heap} {eAZ eB : Expr} {x y : Str} {pA pB : Pos}
theorem Ev.ends {pl : Sem Bool} (h1 : Ev (model prog w) A env h eAZ (IsS x)) (h2 : Ev (model prog w) A env h eB (IsS y))
  (hs : autoParam (starEach [eB] env = (false, eval eB env) :: starEach [] env) tA0) (hnn : autoParam (((backTo pB (starEach [] env)).any fun x => x.1) = false) tA0)
  (hc : autoParam (eval (.Call (.Attribute eAZ (oS "endswith") pA) [eB] [] pB) env = (do
   let ov <- eval eAZ env
   standAt pA.atName
   let (f, first) <- holding [ov] (getMethod ov (oS "endswith") pl)
   callWith pB f first (backTo pB (starEach [eB] env)) [])) tA0) : Ev (model prog w) A env h (.Call (.Attribute eAZ (oS "endswith") pA) [eB] [] pB) (· = .bool (Txt.endswith x y)) := fun s Q E hh hq => by
 refine MethodCall_ (h1 s _ E hh fun v tk hv => ?_) hc
 obtain ⟨t, rfl⟩ := hv
 refine GM.endswith ?_
 refine PyProof.Rows.callWith_method1 (spliced_more (h2 (Tk s tk) _ E hh fun u tk' hu => spliced_none ?_) hs) hs hnn
 obtain ⟨t', rfl⟩ := hu
 exact SC.endswith (hq _ tk' rfl)
end
theorem parse_data_bad (w : World) (news : List (Addr × Obj)) {x p : Str} {ps : List Str} {t : Tok} (hst : Txt.startswith x (oS "(") = false) (hen : Txt.endswith x (oS ")") = false) (hz : x.length <= 9999) (hd : dataIn x = p :: ps) (bad : Bad p) : GivesC w 244 1 3 [.str x t] [] news "ValueError" := by
 refine enterC 0 0 [(oS "value", .str x t)] (fun A base outer g L s m R' a F hm N ok => ?_)
 have e1 := hm _ (.head _)
 refine st_ifC (EvT.and (d := Txt.endswith x (oS ")")) (EvT.not (EvT.bool (Ev.starts (Ev.nmS F e1) Ev.str))) (fun _ => EvT.bool (Ev.ends (Ev.nmS F e1) Ev.str))) (fun b => by rw [hen, Bool.and_false] at b; cases b) (fun _ tk => wpC_of (wpAny_execs_nil ?_))
 have hsl : (Txt.slice x (some 1) (some (-1))).length <= 9999 := Nat.le_trans (PyProof.Txt.length_slice_le x _ _) hz
 refine wpC_cons (wpC_Try_except (wpC_cons (wpC_Return (comp_c (P := fun us => StrsAre us (dataIn x)) a
  (EvN.split1 (EvN.mono (EvN.slice (fun h F => Ev.nmS F e1) (fun h F => Ev.int) (fun h F => Ev.neg Ev.int) (by omega)) fun v new h => h.1) (fun h F => Ev.str) (by decide +kernel) (by omega))
  (fun items hi => ?_) F N (fun items C mCZ v sC E' hi hv G hns hmx hE => ?_) fun e h' tk' x1 => ?_))))
 ·rw [hd] at hi
  cases hi with
  | cons y t _ => exact ⟨_, _, rfl⟩
 ·rw [hd] at hi
  cases hi with
  | cons y t2 _ =>
   obtain rfl := Option.some.inj hv
   exact int_c a.at_.hh G (Ev.mono (Ev.nmNs hns hmx) fun _ e => ⟨t2, e⟩) bad hE
 ·refine up_again rfl x1 ?_
  refine caught_up a x1 (fun q hq => (N q hq).2.2) (by k_is) PyProof.Rows.Boot.«ValueError» (by decide) PySem.F.isExc_ValueError PySem.F.notTuple_ValueError PySem.F.self_ValueError (fun h2 g2 tk2 a2 F2 N2 U2 x2 => ?_)
  exact st_raiseCtx (c := .none) PySem.F.excCall_ValueError PySem.F.excRaise_ValueError a2 ok U2 (fun q hq => hq) F2 N2 x2 (by k_is) PyProof.Rows.Boot.«ValueError» (by decide) (evL_mono (EvL.one Ev.str) fun vs ⟨_, h, _⟩ => by rw [h]; rfl)
section
variable {w : World} {A : Around} {env : Env} {hZ : Heap} {L : Addr} {m : Str -> Option Value} {news : List (Addr × Obj)} {s : Shared} {Q : Flow -> Shared -> Prop} {E : Value -> Shared -> Prop} {e : Expr} {x : Str} {px pos : Pos} {body rest : List Stmt}
theorem st_forC {l : Addr} {v0 : Value} {vs : List Value} {n : Nat} (hh : A.handled = none) (hloc : env.locals = L) (F : Fr hZ L s.heap m) (N : News hZ L s.heap news) (he : Ev (model pg w) A env s.heap e (· = .ref l)) (hl : (l, listOf (v0 :: vs).toArray n) ∈ news)
  (turn : ∀ h tk, Fr hZ L h (mput m x v0) -> News hZ L h news -> wpC (model pg w) A (execs body env) (fun _ _ => False) E (St s h tk))
  (hE : PassesOwn (model pg w) A env E) (hx : autoParam (env.kindOf x = some .local) tA0) (hpp : autoParam ((env.scope.kind == .class || (env.scope.kind == .module && env.locals != env.globals)) = false) tA0) (hs : autoParam (∀ v, foldedSetIterable e env v = pure v) tA2) :
  wpC (model pg w) A (execs (.For (.Name x px) e body [] pos :: rest) env) Q E s := by
 subst hloc
 refine wpC_cons (wpC_For (he s _ E rfl fun v tk hv => ?_) hs)
 subst hv
 have hli : s.heap.IsList l (v0 :: vs).toArray := N.isList hl
 have hlt : l < s.heap.objs.size := by obtain ⟨_, e, _⟩ := hli; exact Heap.lt_size e
 refine wpAny_pyIter_list (s := (Tk s tk)) hli ?_
 dsimp only
 have up : ∀ (o : Obj) b o', s.heap.get? b = some o' -> (s.heap.push o).get? b = some o' := fun o b o' e => Heap.get?_push_of_some _ e
 refine codeC_forLoop (fun _ s' => s' = (St s (s.heap.push { cls := .type "list_iterator", data := .fields #[.ref l, .int 0 0] }) tk)) (fun _ s' hs' => ?_) 0 rfl
 subst hs'
 refine wpC_of ((Walks.list hh s.heap.objs.size l (Nat.ne_of_lt hlt) (v0 :: vs).toArray).item 0 _ _ _ (by simp) ⟨⟨_, Heap.get?_push_size _ rfl, rfl, rfl⟩, by obtain ⟨o, e, r⟩ := hli; exact ⟨o, up _ _ _ e, r⟩⟩ fun v hBZ tkB hPV _ hkB => ?_)
 obtain rfl : v0 = v := by simpa using hPV
 have keep : ∀ b o, s.heap.get? b = some o -> hBZ.get? b = some o := fun b o e => hkB b o (fun q => by rw [zS.mp q] at e; exact absurd (Heap.lt_size e) (Nat.lt_irrefl _)) (up _ _ _ e)
 have FB : Fr hZ env.locals hBZ m := ⟨F.ns.at' fun o e => keep _ o e, fun b o e => keep b o (F.keep b o e), F.above⟩
 have NB : News hZ env.locals hBZ news := fun p hp => ⟨keep _ _ (N p hp).1, (N p hp).2⟩
 refine wpAny_assign_Name (wpAny_storeName_local hx FB.ns (fun hCZ hnCZ hsC => ?_) hpp)
 exact wpC_mono (turn hCZ _ (FB.set hnCZ hsC) (NB.set hsC)) (fun _ _ h => h.elim) hE
end
noncomputable def BadArg (n v : Str) : Prop := if (n == oS "data") = true then Txt.startswith v (oS "(") = false /\ Txt.endswith v (oS ")") = false /\ ∃ p ps, dataIn v = p :: ps /\ Bad p else Bad v
theorem str2msg_bad (w : World) (news : List (Addr × Obj)) {x ty n v : Str} {t : Tok} {args : List Str} (hw : Txt.words x = ty :: (n ++ (oS "=" ++ v)) :: args) (hx : x.length <= 999999) (hz : args.length <= 20) (h61 : 61 ∉ n.cps.toList) (hvl : v.length <= 9999) (hnl : n.length <= 99) (hb : BadArg n v) :
  GivesC w 251 2 6 [.str x t] [] news "ValueError" := by
 refine enterC 1 3 [(oS "text", .str x t)] (fun A base outer g L s m R' a F hm N ok => ?_)
 have e1 := hm _ (.head _)
 clear hm
 dsimp only at e1
 have G := fun {h m} (F : Fr g L h m) => a.at_.gl.keeps F.keep
 refine wpC_seq (st_assignN rfl F N (EvN.split0 (EvN.mono (EvN.of fun h F N => Ev.nmS F e1) fun v new h => h.1) hx) ?_)
 intro y81 y82 h1 tk1 y83
 apply ab4 y81 y82 h1 tk1; intro T9 e9
 obtain ⟨wa, wvs, wn, new0, rfl, rfl, hws⟩ := y83
 subst e9
 intro l1 F1 N1
 refine wpAny_execs_nil ?_
 rw [hw] at hws
 have hwz : wvs.length <= 22 := by rw [strs_len hws, List.length_cons, List.length_cons]; omega
 cases hws with
 | cons _ tt hws =>
 cases hws with
 | cons _ ta hws =>
 rename_i avs
 have N1' : News g L h1 ((wa, listOf (Value.str ty tt :: Value.str (n ++ (oS "=" ++ v)) ta :: avs).toArray wn) :: news) := fun p hp => by
  rcases zC.mp hp with rfl | hp
  ·exact N1 _ (.head _)
  ·exact N1 p (zR _ hp)
 clear F N N1 l1
 refine wpC_seq (st_assign F1 N1' (Ev.lstI (j := 0) (Ev.nm F1 rfl) Ev.int (N1'.isList (.head _)) rfl) ?_)
 rintro _ h2 tk2 rfl F2 N2
 refine wpAny_execs_nil ?_
 clear F1 N1'
 refine wpC_seq (st_assignN rfl F2 N2 (EvN.sliceFrom (i := 1) (fun h F => Ev.nm F rfl) (fun h F N => N.isList (.head _)) (fun h F => Ev.int) (by omega)) ?_)
 intro y81 y82 h3 tk3 y83
 apply ab4 y81 y82 h3 tk3; intro T9 e9
 obtain ⟨aa, avs', an, new1, rfl, rfl, havs⟩ := y83
 subst e9
 intro l3 F3 N3
 refine wpAny_execs_nil ?_
 rw [show avs' = Value.str (n ++ (oS "=" ++ v)) ta :: avs from havs] at N3 l3
 have N3' : News g L h3 ((aa, listOf (Value.str (n ++ (oS "=" ++ v)) ta :: avs).toArray an) :: news) := fun p hp => by
  rcases zC.mp hp with rfl | hp
  ·exact N3 _ (.head _)
  ·exact N3 p (zR _ (.tail _ hp))
 clear F2 N2 N3 l3
 refine wpC_seq (st_assignN rfl F3 N3' (EvN.dict a.at_) ?_)
 intro y81 y82 h4 tk4 y83
 apply ab4 y81 y82 h4 tk4; intro T9 e9
 obtain ⟨d, o1, hd, rfl, rfl⟩ := y83
 subst e9
 intro l4 F4 N4
 refine wpAny_execs_nil ?_
 clear F3 N3' l4
 refine st_forC a.at_.hh rfl F4 N4 (Ev.nm F4 rfl) (.tail _ (.head _)) (fun h tk F N => ?_) passes_body
 have hsub : ∀ q ∈ news, q ∈ ((d, o1) :: ([] : List (Addr × Obj))) ++ ((aa, listOf (Value.str (n ++ (oS "=" ++ v)) ta :: avs).toArray an) :: news) := fun q hq => .tail _ (.tail _ hq)
 have hal : (n ++ (oS "=" ++ v)).length <= 99999 := by rw [len_append, len_append]; show _ + (1 + _) <= _; omega
 refine wpC_seq (st_unpack2 a.at_.hh rfl F N (EvN.splitMax (fun h F => Ev.nmS F rfl) (fun h F => Ev.str) (fun h F => Ev.int) (by decide +kernel) (by omega)) (two_of (arg_split h61)) ?_)
 intro vA vB h5 tk5 hvv F5 N5
 refine wpAny_execs_nil ?_
 rw [arg_split h61] at hvv
 obtain ⟨⟨t1, rfl⟩, ⟨t2, rfl⟩⟩ := two_are hvv
 clear F N
 have a1 := a.less (D' := 1) (U' := 3) (by decide) (by decide)
 have N5' : News g L h5 news := fun q hq => N5 q (hsub q hq)
 refine st_ifC (EvT.eqS (Ev.nmS F5 rfl) Ev.str) (fun b0 tk6 => ?_) (fun b0 tk6 => ?_)
 ·have hnd : (n == oS "data") = false := by rw [eq_of_beq b0]; decide +kernel
  rw [BadArg, if_neg (ne_true_of_eq_false hnd)] at hb
  exact st_assignC F5 N5' (EvC.fn a1 (fun h F N => Ev.glob (G F) (by k_is)) (by k_is) (fun h F N => EvL.one (Ev.nmS F rfl)) (fun vs hvs => by obtain ⟨_, rfl, u, rfl⟩ := hvs; exact parse_time_bad w _ hb)) (takes_body a1 ok fun q hq => hq)
 refine st_ifC (EvT.eqS (Ev.nmS F5 rfl) Ev.str) (fun b1 tk6 => ?_) (fun b1 tk6 => ?_)
 ·rw [BadArg, if_pos b1] at hb
  obtain ⟨hb1, hb2, p, ps, hb3, hb4⟩ := hb
  exact st_assignC F5 N5' (EvC.fn a1 (fun h F N => Ev.glob (G F) (by k_is)) (by k_is) (fun h F N => EvL.one (Ev.nmS F rfl)) (fun vs hvs => by obtain ⟨_, rfl, u, rfl⟩ := hvs; exact parse_data_bad w _ hb1 hb2 hvl hb3 hb4)) (takes_body a1 ok fun q hq => hq)
 ·rw [BadArg, if_neg (ne_true_of_eq_false b1)] at hb
  exact wpC_cons (wpC_Assign (int_c a.at_.hh (G F5) (Ev.nmS F5 rfl) hb fun vs h' tk e hm => leave_made a ok (fun q hq => hq) F5 N5' hm.of))
theorem from_str_bad (w : World) (news : List (Addr × Obj)) {x : Str} {t : Tok} {X : String} (hb : ∀ news t', GivesC w 251 2 6 [.str x t'] [] news X) : GivesC w 391 3 9 [.ref 418, .str x t] [] news X := by
 refine enterC 2 6 [(oS "cl", .ref 418), (oS "text", .str x t)] (fun A base outer g L s m R' a F hm N ok => ?_)
 have e1 := hm _ (.head _)
 have e2 := hm _ (.tail _ (.head _))
 clear hm
 dsimp only at e1 e2
 exact st_retC F N (EvC.kwArg (f := 418) (fun h F N => Ev.nm F e1) (fun d => EvC.fn a (fun h F N => Ev.glob (a.at_.gl.keeps F.keep) (by k_is)) (by k_is) (fun h F N => EvL.one (Ev.nmS F e2)) (fun vs hvs => by
  obtain ⟨_, rfl, u, rfl⟩ := hvs
  exact hb _ u))) (takes_body a ok fun q hq => hq)
theorem parse_string_bad (w : World) (news : List (Addr × Obj)) {x : Str} {t : Tok} {D U : Nat} {X : String} (hb : ∀ news t', GivesC w 391 D U [.ref 418, .str x t'] [] news X) : GivesC w 427 (D + 1) (U + 3) [.str x t] [] news X := by
 refine enterC D U [(oS "text", .str x t)] (fun A base outer g L s m R' a F hm N ok => ?_)
 have e1 := hm _ (.head _)
 clear hm
 dsimp only at e1
 exact st_retC F N (EvC.cm (RL := fun vs => ∃ v, vs = [v] /\ IsS x v) (fa := 391) (pa := 393) (nm := oS "from_str") a (fun h F N => Ev.glob (a.at_.gl.keeps F.keep) (by k_is)) (fun q f h F N => EvL.one (Ev.nmS F e1)) (fun q vs hvs => by
  obtain ⟨_, rfl, u, rfl⟩ := hvs
  exact hb _ u) (by k_is) (by k_is) (by k_is) (by k_is) (by k_is) (by k_is)) (takes_body a ok fun q hq => hq)
theorem from_str_name (w : World) (news : List (Addr × Obj)) {k : Nat} (hk : k < 18) {x : Str} {t : Tok} {D : FD} {i : Nat} (hx : TextOk k x D) (hkw : KwOk k D) (hno : BadMsg k (initD k D) i) : GivesC w 391 7 19 [.ref 418, .str x t] [] news "ValueError" := by
 refine GivesX.toC (enterX 6 16 [(oS "cl", .ref 418), (oS "text", .str x t)] (fun A base outer g L s m R' a F hm N ok => ?_))
 have e1 := hm _ (.head _)
 have e2 := hm _ (.tail _ (.head _))
 clear hm
 dsimp only at e1 e2
 refine st_retX F N (EvX.newMsg (D' := 0) (U' := 0) a hk (fun h F N => Ev.nm F e1) (fun d0 o0 => EvN.mono (EvN.fn (a.at_.less (D' := 2) (U' := 6) (by decide) (by decide)) (fun h F N => Ev.glob (a.at_.gl.keeps F.keep) (by k_is)) (by k_is) (fun h F N => EvL.one (Ev.nmS F e2)) (fun vs hvs => by
  obtain ⟨_, rfl, u, rfl⟩ := hvs
  exact str2msg_txt w _ hk hx)) ?_) hkw hno) (takes_body a ok fun q hq => hq)
 rintro v new ⟨b, rfl, hb⟩; exact ⟨b, rfl, hb.mono fun p hp => zL _ hp⟩
noncomputable def SegC (M : Model) (A : Around) (R : GenEnd) (Y : Protocol) : Nat -> Shared -> Code -> Sem Fin -> List Frame -> Shared -> Prop
 | 0 => fun sZ c t fs s => ∀ Γ p, Γ.code = c -> Γ.Woken A -> Called Γ -> ∃ e s', Runs M Γ p t fs s e s' /\ SegEnd R Y 0 (fun _ _ _ _ => False) sZ e s'
 | n + 1 => fun sZ c t fs s => ∀ Γ p, Γ.code = c -> Γ.Woken A -> Called Γ -> ∃ e s', Runs M Γ p t fs s e s' /\ SegEnd R Y (n + 1) (fun c' t' fs' s'' => SegC M A R Y n s'' c' t' fs' s'') sZ e s'
noncomputable def SegC.next (M : Model) (A : Around) (R : GenEnd) (Y : Protocol) : Nat -> Code -> Sem Fin -> List Frame -> Shared -> Prop
 | 0 => fun _ _ _ _ => False
 | n + 1 => fun c t fs s'' => SegC M A R Y n s'' c t fs s''
section
variable {M : Model} {A : Around} {R : GenEnd} {Y : Protocol} {n : Nat} {sZ : Shared} {c : Code} {fs : List Frame} {s : Shared}
theorem segC_iff {t : Sem Fin} : SegC M A R Y n sZ c t fs s ↔ ∀ Γ p, Γ.code = c -> Γ.Woken A -> Called Γ -> ∃ e s', Runs M Γ p t fs s e s' /\ SegEnd R Y n (SegC.next M A R Y n) sZ e s' := by cases n <;> rfl
theorem called_over {Γ : Ctx} (k : Called Γ) : Called (Γ.over fs) := by
 show (fs.map Frame.where_ ++ Γ.below).any _ = true
 rw [List.any_append, show Γ.below.any (fun c => c.1.isCaller) = true from k, Bool.or_true]
theorem segC_wrap {α : Type} {m : Sem α} {K : α -> Sem Fin} {H : Value -> Sem Fin} {gd : Bool -> Bool} {lv : List Value -> List Value}
  (h : wpC M (A.over c fs) m (fun a s' => SegC M A R Y n sZ c (K a) fs s') (fun x s' => SegC M A R Y n sZ c (H x) fs s') s) : SegC M A R Y n sZ c (m.wrap K H gd lv) fs s := by
 rw [segC_iff]
 rintro Γ p rfl hΓ k
 exact runs_wrap_of_wp K H gd lv m (h (Γ.over fs) p (hΓ.over fs) (called_over k)) (fun a p' s' h' => segC_iff.mp h' Γ p' rfl hΓ k) (fun x p' s' h' => segC_iff.mp h' Γ p' rfl hΓ k)
theorem segC_at {p' : Pos} {k : Unit -> Sem Fin} (h : SegC M A R Y n sZ c (k ()) fs s) : SegC M A R Y n sZ c (.at p' k) fs s :=
 segC_wrap (m := standAt p') (K := k) (H := .raise) (gd := id) (lv := id) (wpC_of (wpAny_standAt h))
theorem segC_point {l : List Value} {k : Unit -> Sem Fin} (h : SegC M A R Y n sZ c (k ()) fs s) : SegC M A R Y n sZ c (.point l k) fs s :=
 segC_wrap (m := point) (K := k) (H := .raise) (gd := id) (lv := fun _ => l) (wpC_of (wpAny_point h))
theorem segC_call {c' : Code} {h : Option Value} {g : Bool} {l : List Value} {k : Result -> Sem Fin} (hc : ∀ p, SegC M A R Y n sZ c' (M.den c') (.ret k h g l c p [] :: fs) s) : SegC M A R Y n sZ c (.call c' h g l k) fs s := by
 rw [segC_iff]
 rintro Γ p rfl hΓ kc
 obtain ⟨e, s', hr, he⟩ := segC_iff.mp (hc p) (Γ.goto c') p rfl (hΓ.goto c') kc
 exact ⟨e, s', runs_call_seg hr, he⟩
theorem segC_leaf {k : Result -> Sem Fin} {h : Option Value} {g : Bool} {l : List Value} {c₁ : Code} {pA : Pos} {kp : List Value} (r : Result) (hk : SegC M A R Y n sZ c₁ (k r) fs s) : SegC M A R Y n sZ c (leafOf r) (.ret k h g l c₁ pA kp :: fs) s := by
 rw [segC_iff]
 rintro Γ p rfl hΓ kc
 obtain ⟨e, s', hr, he⟩ := segC_iff.mp hk (Γ.goto c₁) pA rfl (hΓ.goto c₁) kc
 exact ⟨e, s', Runs.pop r hr, he⟩
theorem segC_again {c' : Code} (hq : c'.quiet = true) (hc : SegC M A R Y n sZ c' (M.den c') fs s) : SegC M A R Y n sZ c (.pure (.again c')) fs s := by
 rw [segC_iff]
 rintro Γ p rfl hΓ kc
 obtain ⟨e, s', hr, he⟩ := segC_iff.mp hc (Γ.goto c') p rfl (hΓ.goto c') kc
 exact ⟨e, s', Runs.head (c₁ := c') (fun _ _ x => .again hq x) hr, he⟩
theorem segC_end (r : Result) (h : R n sZ r s) : SegC M A R Y n sZ c (leafOf r) [] s := by
 rw [segC_iff]
 rintro Γ p rfl _ _
 exact ⟨.ret r, s, Runs.leaf r, h⟩
theorem segC_yield {v : Value} {g : Bool} {l : List Value} {k : Resume -> Sem Fin} (hfs : splitAtGen fs = none) (hg : g = false) (hfg : fs.any Frame.guarded = false)
  (h : Y n sZ v s fun r s'' => SegC M A R Y n s'' c (k r) fs s'') : SegC M A R Y (n + 1) sZ c (.yield v g l k) fs s := by
 rintro Γ p rfl _ _
 exact ⟨_, s, Runs.yield' fs hfs, And.intro (by simp [End.quiet, hg, hfg]) h⟩
end
noncomputable def GoesC (M : Model) (A : Around) (R : GenEnd) (Y : Protocol) (n : Nat) (gs : GenState) (r : Resume) (s : Shared) : Prop :=
 match gs with
 | .fresh c => r = .send .none /\ SegC M A R Y n s c (M.den c) [] s
 | .suspended k _ c _ fs _ => SegC M A R Y n s c (k r) fs s
 | _ => False
section
variable {M : Model} {A : Around} {R : GenEnd} {Y : Protocol} {n : Nat} {E : Value -> Shared -> Prop} {s : Shared}
theorem wpC_resume {g : Nat} {gs : GenState} {r : Resume} {l : List Value} {α : Type} {k : GenResult -> Sem α} {Q : α -> Shared -> Prop} (hg : s.gens[g]? = some gs) (hgo : GoesC M A R Y n gs r (s.setGen g .running))
  (hR : ∀ x sA, R n (s.setGen g .running) x sA -> wpC M A (k (End.ret x).result) Q E (sA.setGen g .finished))
  (hY : ∀ v sA gs', Y (n - 1) (s.setGen g .running) v sA (fun r' s'' => match n with | 0 => False | m + 1 => GoesC M A R Y m gs' r' s'') -> wpC M A (k (.yielded v)) Q E (sA.setGen g gs')) : wpC M A (.resume g r l k) Q E s := by
 intro Γ p hΓ kc
 rw [Sem.wp_resume]
 have hB : ∀ c, (Γ.wake c p).Woken A := fun c => hΓ.wake c p
 have kw : ∀ c, Called (Γ.wake c p) := fun c => by
  show ((Γ.code, p) :: Γ.below).any (fun c => c.1.isCaller) = true
  rw [List.any_cons, show Γ.below.any (fun c => c.1.isCaller) = true from kc, Bool.or_true]
 have fin : ∀ eAZ sA, SegEnd R Y n (SegC.next M A R Y n) (s.setGen g .running) eAZ sA -> Sem.wp M Γ (k eAZ.result) (fun a _ s' => Q a s') (fun e _ s' => E e s') p (sA.setGen g eAZ.genState) := by
  intro eAZ sA he
  cases eAZ with
  | ret x => exact hR x sA he Γ p hΓ kc
  | susp v gZ lZ kZ cZ pZ fsZ =>
   refine hY v sA _ ?_ Γ p hΓ kc
   cases n with
   | zero => exact he.2
   | succ m => exact he.2
 have hqt : ∀ eAZ sA, SegEnd R Y n (SegC.next M A R Y n) (s.setGen g .running) eAZ sA -> eAZ.quiet = true := by
  intro eAZ sA he
  cases eAZ with
  | ret x => rfl
  | susp v gZ lZ kZ cZ pZ fsZ => exact he.1
 cases gs with
 | fresh c =>
  obtain ⟨rfl, hs⟩ := hgo
  obtain ⟨eAZ, sA, hr, he⟩ := segC_iff.mp hs (Γ.wake c p) p rfl (hB c) (kw c)
  exact ⟨_, _, by unfold Wakes; rw [hg]; exact ⟨eAZ, sA, hr, hqt eAZ sA he, rfl, rfl⟩, fin eAZ sA he⟩
 | suspended kZ lZ cZ pZ fsZ cl =>
  obtain ⟨eAZ, sA, hr, he⟩ := segC_iff.mp hgo (Γ.wake cZ p) pZ rfl (hB cZ) (kw cZ)
  exact ⟨_, _, by unfold Wakes; rw [hg]; exact ⟨eAZ, sA, hr, hqt eAZ sA he, rfl, rfl⟩, fin eAZ sA he⟩
 | running => exact hgo.elim
 | finished => exact hgo.elim
end
section
variable {prog : Program} {w : World} {A : Around} {E : Value -> Shared -> Prop} {s : Shared} {R : Result -> Shared -> Prop}
theorem codeC_call_builtinW {id : String} {args : Args} {b : Builtin} (hq : plainId id = true) (hb : entryFor table id = some b)
  (h : wpAny (model prog w) A.in1 (checkBuiltinCall id args) (fun _ sA => wpC (model prog w) A.in1 (b args) (fun fin s' => match fin with | .done f => R (.ok f) s' | .again c' => c'.quiet = true /\ codeC (model prog w) A c' R s') (fun e s' => R (.error e) s') sA) (fun e s' => R (.error e) s') s) : codeC (model prog w) A (.call (.builtin id) args) R s := by
 refine codeC_of_tree ?_
 show wpC _ A.in1 (do checkBuiltinCall id args; again (.builtin id args)) _ _ s
 refine wpC_bindA (wpAny_mono h (fun _ sA hAZ => wpC_of (wpAny_pure (And.intro (plainId_quiet hq args) (codeC_builtin hb ?_)))) fun _ _ x => x)
 rw [Around.under_plainId hq args]; exact hAZ
theorem wpC_call_entry {T : String} {name : Str} {id : String} {b : Builtin} {self : Value} {rest : List Value} {Q : Value -> Shared -> Prop} (h : Slot T name id) (hT : s.TypeIs self T) (hb : entryFor table id = some b)
  (hc : wpC (model prog w) A.in1 (b ⟨self :: rest, []⟩) (fun fin s' => ∃ v, fin = .done (.ret v) /\ Q v s') E s) (ha : argsOk id ⟨self :: rest, []⟩) : wpC (model prog w) A (call (.builtin id) (self :: rest)) Q E s := by
 refine wpC_call (codeC_call_builtinW h.plain hb (h.check _ _ _ _ _ _ _ _ hT ha ?_))
 refine wpC_mono hc (fun fin s' h' => ?_) fun _ _ h' => h'
 obtain ⟨v, rfl, hv⟩ := h'; exact hv
theorem wpC_callSpecial {M : Model} {self : Value} {T : String} {name : Str} {id : String} {args : List Value} {kw : List (Str × Value)} {Q : Option Value -> Shared -> Prop} (hT : s.TypeIs self T) (h : Slot T name id)
  (hc : wpC M A (call (.builtin id) (self :: args) kw) (fun v => Q (some v)) E s) : wpC M A (callSpecial? self name args kw) Q E s := by
 refine wpC_bindA (wpAny_specialOf hT h.lookup ?_)
 simp only [h.bind]
 exact wpC_holding (wpC_bindA (wpAny_pure (wpC_bind (wpC_mono hc (fun v s' h' => wpC_pure h') fun _ _ h' => h'))))
theorem wpC_pyNext_gen {a : Addr} {g n : Nat} {gs : GenState} {P : Nat -> Shared -> Shared -> Prop} {Y : Protocol} {Q : Option Value -> Shared -> Prop} (hh : A.handled = none) (hl : s.heap.NoLimit) (hroom : A.depth < recursionLimit) (hg : s.heap.IsGen a g) (hgs : s.gens[g]? = some gs)
  (hgo : GoesC (model prog w) A.in1 (fun n sZ r sA => r = .ok (.ret .none) /\ P n sZ sA) Y n gs (.send .none) (s.setGen g .running))
  (hY : ∀ v sA gs', Y (n - 1) (s.setGen g .running) v sA (fun r' s'' => match n with
    | 0 => False
    | m + 1 => GoesC (model prog w) A.in1 (fun n sZ r sA => r = .ok (.ret .none) /\ P n sZ sA) Y m gs' r' s'') -> Q (some v) (sA.setGen g gs'))
  (hP : ∀ sA, P n (s.setGen g .running) sA -> ∀ h', (∀ b o, sA.heap.get? b = some o -> h'.get? b = some o) -> Q none { sA.setGen g .finished with heap := h' }) : wpC (model prog w) A (pyNext (.ref a)) Q E s := by
 refine wpC_bind (m := Sem.attempt _) (wpC_attempt (wpC_callSpecial (name := oS "__next__") hg.typeIs slot_gen_next (wpC_call_entry slot_gen_next hg.typeIs entry_gen_next ?_ (args_gen_next _))))
 show wpC _ _ (Builtin.Generator.genWake (.ref a) (.send .none)) _ _ s
 refine wpC_bind (wpC_holding (wpC_of (wpAny_genNumber hg ?_)))
 refine wpC_bindA (wpAny_genState hgs ?_)
 cases gs with
 | running => exact hgo.elim
 | finished => exact hgo.elim
 | _ =>
  refine wpC_bindA (wpAny_roomToWake hl hroom ?_)
  show wpC _ _ (.resume g (.send .none) [] _) _ _ s
  refine wpC_resume hgs hgo (fun x sA hx => ?_) (fun v sA gs' hv => ?_)
  ·obtain ⟨rfl, hp⟩ := hx
   refine wpC_of ?_
   show wpAny _ _ (newExc (.type "StopIteration") [] >>= _) _ _ _
   refine wpAny_bind ?_
   simp only [newExc, newTuple]
   refine wpAny_bind (wpAny_newObj_type ?_ (by size_fits))
   refine wpAny_bind (m := firstArgMember _ _) (wpAny_of_eq (a := Value.none) (by first | rfl | (simp only [firstArgMember]; rfl)) ?_)
   refine wpAny_newObj_type ?_ (by size_fits)
   simp only [raiseNew]
   refine wpAny_bind (wpAny_bind (wpAny_handled ?_))
   rw [show A.in1.handled = none from hh]
   refine wpAny_throw (wpC_bindA ?_)
   refine wpAny_isInstance (T := "StopIteration") (b := true) ⟨_, Heap.get?_push_size _ rfl, rfl⟩ isSubtype_stop ?_
   exact wpC_pure (hP sA hp _ fun b o hb => Heap.get?_push_of_some _ (Heap.get?_push_of_some _ hb))
  ·exact wpC_pure ⟨v, rfl, wpC_pure (hY v sA gs' hv)⟩
end
section
variable {M : Model} {A : Around} {R : GenEnd} {Y : Protocol} {n : Nat} {sZ : Shared} {c : Code} {fs : List Frame} {s : Shared} {env : Env} {K : Flow -> Sem Fin} {H : Value -> Sem Fin} {gd : Bool -> Bool} {lv : List Value -> List Value}
theorem segC_stmt {st : Stmt} {rest : List Stmt} (h : wpC M (A.over c fs) (exec st env) (fun f s' => match f with | .next => SegC M A R Y n sZ c ((execs rest env).wrap K H gd lv) fs s' | f => SegC M A R Y n sZ c (K f) fs s') (fun x s' => SegC M A R Y n sZ c (H x) fs s') s) : SegC M A R Y n sZ c ((execs (st :: rest) env).wrap K H gd lv) fs s := by
 rw [execs_cons_wrap]
 exact segC_wrap (wpC_mono h (fun f s' h' => by cases f <;> exact h') fun _ _ x => x)
theorem segC_one {st : Stmt} {rest : List Stmt} (h : wpC M (A.over c fs) (execs [st] env) (fun f s' => match f with | .next => SegC M A R Y n sZ c ((execs rest env).wrap K H gd lv) fs s' | f => SegC M A R Y n sZ c (K f) fs s') (fun x s' => SegC M A R Y n sZ c (H x) fs s') s) : SegC M A R Y n sZ c ((execs (st :: rest) env).wrap K H gd lv) fs s := by
 refine segC_stmt fun Γ p hΓ hc => ?_
 have h1 := h Γ p hΓ hc
 rw [execs_cons, Sem.wp_bind'] at h1
 refine Sem.wp_mono M Γ _ (fun f p' s' h' => ?_) (fun _ _ _ h' => h') _ _ h1
 cases f <;> exact h'
theorem segC_If {test : Expr} {body orelse rest : List Stmt} {pos : Pos} (h : wpAny M (A.over c fs) (isTrue test env (eval test env)) (fun b s' =>
   if b = true then SegC M A R Y n sZ c ((execs body env).wrap (fun f => match f with | .next => (execs rest env).wrap K H gd lv | f => K f) H gd lv) fs s' else SegC M A R Y n sZ c ((execs orelse env).wrap (fun f => match f with | .next => (execs rest env).wrap K H gd lv | f => K f) H gd lv) fs s')
   (fun x s' => SegC M A R Y n sZ c (H x) fs s') s) : SegC M A R Y n sZ c ((execs (.If test body orelse pos :: rest) env).wrap K H gd lv) fs s := by
 rw [execs_cons_wrap, exec_If]
 rw [Sem.bind_eq_wrap', Sem.wrap_wrap]
 refine segC_wrap (wpC_of (wpAny_standAt ?_))
 rw [Sem.bind_eq_wrap', Sem.wrap_wrap]
 refine segC_wrap (wpC_of (wpAny_mono h (fun b s' hb => ?_) fun _ _ x => x))
 cases b with
 | true => exact hb
 | false => exact hb
theorem segC_Yield {e : Expr} {ypos pos : Pos} {rest : List Stmt} (hfs : splitAtGen fs = none) (hgd : gd false = false) (hfg : fs.any Frame.guarded = false)
  (h : wpAny M (A.over c fs) (eval e env) (fun v s' => ∀ kap : Resume -> Shared -> Prop, (∀ s'', SegC M A R Y n s'' c ((execs rest env).wrap K H gd lv) fs s'' -> kap (.send .none) s'') -> Y n sZ v s' kap)
   (fun x s' => SegC M A R Y (n + 1) sZ c (H x) fs s') s) (hco : autoParam (env.scope.isCoroutine = false) tA0) (hi : autoParam (interactive env = false) tA0) :
  SegC M A R Y (n + 1) sZ c ((execs (.Expr (.Yield (some e) ypos) pos :: rest) env).wrap K H gd lv) fs s := by
 rw [execs_cons_wrap, exec_Expr env _ pos hi rfl]
 show SegC M A R Y (n + 1) sZ c (.at pos fun _ => ((eval e env >>= fun v => (standAt ypos >>= fun _ => yieldOut env v)) >>= fun x =>
  dropValue (.Yield (some e) ypos) pos x).wrap _ H gd lv) fs s
 have hy : ∀ v, yieldOut env v = yieldValue v := fun v => by simp only [yieldOut, hco, Bool.false_eq_true, if_false]
 simp only [hy]
 refine segC_at ?_
 rw [Sem.bind_eq_wrap', Sem.bind_eq_wrap', Sem.wrap_wrap, Sem.wrap_wrap]
 refine segC_wrap (wpC_of (wpAny_mono h (fun v s' h' => ?_) fun _ _ x => x))
 refine segC_at (segC_yield hfs hgd hfg ?_)
 exact h' _ fun s'' hx => hx
theorem segC_For {target iter : Expr} {body orelse rest : List Stmt} {pos : Pos} (hs : ∀ x, foldedSetIterable iter env x = pure x)
  (h : wpAny M (A.over c fs) (eval iter env) (fun x sA => wpAny M (A.over c fs) (pyIter x) (fun it sB => ∀ p, SegC M A R Y n sZ (.forLoop target it body orelse env) (M.den (.forLoop target it body orelse env))
   (.ret (fun r => ((match r with | .ok f => (.pure f : Sem Flow) | .error e => .raise e).onRaise fun (x : Value) => do
    if (<- field x 1) == Value.none then unsupported "frame.own-activation:exception-without-traceback"
    setFlight x env.frame).wrap (fun (f : Flow) => match f with | .next => (execs rest env).wrap K H gd lv | f => K f) H gd lv) none (gd false) (lv []) c p [] :: fs) sB) (fun x s' => SegC M A R Y n sZ c (H x) fs s') sA) (fun x s' => SegC M A R Y n sZ c (H x) fs s') s) :
  SegC M A R Y n sZ c ((execs (.For target iter body orelse pos :: rest) env).wrap K H gd lv) fs s := by
 rw [execs_cons_wrap, exec_For]
 rw [Sem.bind_eq_wrap', Sem.wrap_wrap]
 refine segC_wrap (wpC_of (wpAny_standAt ?_))
 rw [Sem.bind_eq_wrap', Sem.wrap_wrap]
 refine segC_wrap (wpC_of (wpAny_mono h (fun x sA hAZ => ?_) fun _ _ x => x))
 rw [hs x, Sem.bind_eq_wrap', Sem.wrap_wrap]
 refine segC_wrap (wpC_of (wpAny_pure ?_))
 rw [Sem.bind_eq_wrap', Sem.wrap_wrap]
 refine segC_wrap (wpC_of (wpAny_standAt ?_))
 rw [Sem.bind_eq_wrap', Sem.wrap_wrap]
 refine segC_wrap (wpC_of (wpAny_holding (wpAny_mono hAZ (fun it sB hBZ => ?_) fun _ _ x => x)))
 exact segC_call hBZ
end
section
variable {prog : Program} {w : World} {A : Around} {R : GenEnd} {Y : Protocol} {n : Nat} {sZ : Shared} {fs : List Frame} {s : Shared} {env : Env}
theorem segC_func {body : List Stmt} (h : SegC (model prog w) A R Y n sZ (.func body env) ((execs body env).wrap (fun f => .pure (.done (.ret (match f with | .ret v => v | _ => .none)))) (fun e => (leaving env e).wrap (fun _ => .raise e) .raise id id) id id) fs s) :
  SegC (model prog w) A R Y n sZ (.func body env) ((model prog w).den (.func body env)) fs s := by
 show SegC _ A R Y n sZ _ (.point [] fun _ => ((execs body env).onRaise (leaving env)) >>= _) fs s
 refine segC_point ?_
 rw [Sem.onRaise_eq_wrap, Sem.bind_eq_wrap', Sem.wrap_wrap]
 rw [Sem.wrap_congr (execs body env) _ _ (K' := fun f => .pure (.done (.ret (match f with | .ret v => v | _ => .none)))) (H' := fun e => (leaving env e).wrap (fun _ => .raise e) .raise id id) (fun f => by cases f <;> rfl)
  (fun e => by rw [Sem.bind_eq_wrap, Sem.wrap_wrap]; rfl)]
 exact h
end
section
variable {prog : Program} {w : World} {A : Around} {R : GenEnd} {Y : Protocol} {n : Nat} {sZ : Shared} {fs : List Frame} {s : Shared} {env : Env}
noncomputable def lostH (env : Env) (e : Value) : Sem Fin := ((do noteFrame e env; theTreesLotGoes e : Sem Unit).bind fun _ => .raise e)
theorem segC_forLoop {target : Expr} {it : Value} {body : List Stmt}
  (h : wpAny (model prog w) (A.over (.forLoop target it body [] env) fs) (pyNext it) (fun r s' => match r with
   | none => SegC (model prog w) A R Y n sZ (.block [] env) (leafOf (.ok .next)) fs s'
   | some v => wpAny (model prog w) (A.over (.forLoop target it body [] env) fs) (assign target env v) (fun _ s'' => SegC (model prog w) A R Y n sZ (.forLoop target it body [] env) ((execs body env).wrap (fun (f : Flow) => match f with
      | .next | .cont => .pure (.again (.forLoop target it body [] env))
      | .brk => .pure (.done .next)
      | .ret v => .pure (.done (.ret v))) (lostH env) id id) fs s'') (fun _ _ => False) s') (fun _ _ => False) s) (ht : autoParam (∀ v, letOwnedTupleGo target it v = pure ()) tA2) :
  SegC (model prog w) A R Y n sZ (.forLoop target it body [] env) ((model prog w).den (.forLoop target it body [] env)) fs s := by
 show SegC _ A R Y n sZ _ ((forTurn target it body [] env).onRaise (fun x => do noteFrame x env; theTreesLotGoes x)) fs s
 unfold forTurn
 rw [Sem.onRaise_eq_wrap, Sem.bind_eq_wrap', Sem.wrap_wrap]
 refine segC_wrap (wpC_of (wpAny_standAt ?_))
 rw [Sem.bind_eq_wrap', Sem.wrap_wrap]
 refine segC_wrap (wpC_of (wpAny_onRaise (wpAny_mono h (fun r s' h' => ?_) fun _ _ x => x.elim)))
 cases r with
 | none =>
  refine segC_again rfl ?_
  exact h'
 | some v =>
  dsimp only
  rw [ht v, Sem.bind_eq_wrap', Sem.wrap_wrap]
  refine segC_wrap (wpC_of (wpAny_pure ?_))
  rw [Sem.bind_eq_wrap', Sem.wrap_wrap]
  refine segC_wrap (wpC_of (wpAny_mono h' (fun _ s'' h'' => ?_) fun _ _ x => x.elim))
  rw [Sem.bind_eq_wrap', Sem.wrap_wrap]
  have e : ∀ {KAZ KB : Flow -> Sem Fin}, (∀ f, KAZ f = KB f) -> SegC (model prog w) A R Y n sZ (.forLoop target it body [] env) ((execs body env).wrap KB (lostH env) id id) fs s'' -> SegC (model prog w) A R Y n sZ (.forLoop target it body [] env) ((execs body env).wrap KAZ (lostH env) id id) fs s'' := fun hk h => by rw [funext hk]; exact h
  exact e (fun f => by cases f <;> rfl) h''
end
section
variable {w : World} {A B : Around} {env envg : Env} {hZ h h' g1 : Heap} {L Lg : Addr} {m mg mg' : Str -> Option Value} {led led' : List (Addr × Obj)} {oL : Obj} {D U D' U' : Nat}
noncomputable def genG (h : Heap) (Lg : Addr) (led : List (Addr × Obj)) : Heap := behind h Lg (led.map (·.1))
structure GenOk (w : World) (B : Around) (hZ : Heap) (envg env : Env) (g : Heap) (L Lg : Addr) (m : Str -> Option Value) (D U : Nat) : Prop where
 ax : AtX w B hZ envg [env] g Lg D U
 ns : g.Ns L m
 lt : L < Lg
theorem gen_enter (a : At w A env hZ L D U) (F : Fr hZ L h m) (N : News hZ L h ((Lg, oL) :: led)) (hns : h.Ns Lg mg) (hlt : L < Lg) (hlu : ∀ q ∈ led, q.1 ≠ Lg) (hB : B.frames = some [envg, env]) (hh : B.handled = none)
  (hf : envg.frame = some Lg) (hl : envg.locals = Lg) (hk : envg.scope.kind = .function) (hd : B.depth + D' < recursionLimit) (hu : B.units + U' < cLine) (h1 : 1 <= B.depth) (h3 : 3 <= B.units) :
  GenOk w B hZ envg env (genG h Lg led) L Lg m D' U' /\ Fr (genG h Lg led) Lg h mg /\ News (genG h Lg led) Lg h led := by
 have hin : ∀ b o, hZ.get? b = some o -> (genG h Lg led).get? b = some o := fun b o e => behind_get (Nat.lt_of_lt_of_le (Heap.lt_size e) (Nat.le_trans F.above (Nat.le_of_lt hlt))) (fun q => by
  obtain ⟨p, hp, rfl⟩ := List.mem_map.mp q
  rw [(N p (.tail _ hp)).2.2] at e; cases e) (F.keep b o e)
 have hLn : L ∉ led.map (·.1) := fun q => by
  obtain ⟨p, hp, e⟩ := List.mem_map.mp q
  exact (N p (.tail _ hp)).2.1 e
 have gL : ∀ o, h.get? L = some o -> (genG h Lg led).get? L = some o := fun o e => behind_get hlt hLn e
 have nsL : (genG h Lg led).Ns L m := F.ns.at' gL
 have hL0 : hZ.get? L = none := Heap.get?_none_of_le F.above
 have hfr : (genG h Lg led).FunFrames hZ [env] := by
  obtain ⟨o, es, ep, ho, hdt, _⟩ := nsL
  exact ⟨by rw [a.kd]; decide, ⟨L, o, a.fr, hL0, ho, fun vs q => by rw [hdt] at q; cases q⟩, trivial⟩
 obtain ⟨p, loose, mean, mg0, mb, AA, baseA, outerA, BA, T, hAA⟩ := a.ex
 have aa : At w B envg (genG h Lg led) Lg D' U' := ⟨⟨p, loose, mean, mg0, mb, { B with frames := some [env] }, hZ, [env], ⟨rfl, hin, hfr⟩, T.keeps hin, hB⟩, hh, hf, hl, hk, a.K.keeps hin, hd, hu, ⟨hZ, [env], hB, hin, hfr, a.K, ⟨p, loose, mean, mg0, mb, T⟩, h1, h3⟩⟩
 refine ⟨⟨⟨aa, hB, hin, hfr, a.K, ⟨p, loose, mean, mg0, mb, T⟩, h1, h3⟩, nsL, hlt⟩, ⟨hns, fun b o e => (of_behind e).1, behind_size _ _ _⟩, fun q hq => ⟨(N q (.tail _ hq)).1, hlu q hq, hideAll_none _ (List.mem_map_of_mem hq)⟩⟩
theorem gen_leave {g0 : Heap} (k : GenOk w B hZ envg env g0 L Lg m D U) (ax : AtX w B hZ envg [env] g1 Lg D' U') (hu : g0.UpToSlots g1) (F0 : hZ.objs.size <= L) (F : Fr g1 Lg h' mg') (N : News g1 Lg h' led') :
  Fr hZ L h' m /\ ∃ oL', News hZ L h' ((Lg, oL') :: led') := by
 have ns1 : g1.Ns L m := hu.ns k.ns
 have hg1 : ∃ o, g1.get? L = some o := by obtain ⟨o, _, _, ho, _⟩ := ns1; exact ⟨o, ho⟩
 refine ⟨⟨ns1.keeps F.keep, fun b o e => F.keep b o (ax.bst b o e), F0⟩, ?_⟩
 obtain ⟨oL', es, ep, ho, _⟩ := F.ns
 have none_of : ∀ {b : Addr}, g1.get? b = none -> hZ.get? b = none := fun {b} hb => fresh_of_stays ax.bst hb
 refine ⟨oL', fun q hq => ?_⟩
 rcases zC.mp hq with rfl | hq
 ·exact ⟨ho, Nat.ne_of_gt k.lt, none_of (Heap.get?_none_of_le F.above)⟩
 ·obtain ⟨n1, n2, n3⟩ := N q hq
  refine ⟨n1, fun e => ?_, none_of n3⟩
  obtain ⟨o, hgo⟩ := hg1
  rw [<- e, n3] at hgo; cases hgo
end
section
variable {prog : Program} {w : World} {A : Around} {env : Env} {h hZ : Heap} {L : Addr} {m : Str -> Option Value} {news : List (Addr × Obj)} {e eAZ : Expr} {x : Str} {kZ : Nat} {pos pA pB : Pos} {s : Shared} {Q : Flow -> Shared -> Prop} {E : Value -> Shared -> Prop} {rest : List Stmt}
theorem EvT.text (h1 : Ev (model prog w) A env h e (IsS x)) (hz : x.length <= 99999999) (hp : autoParam (isTrue e env (eval e env) = (do let v <- eval e env; standAt (Expr.pos e); holding [v] (truthy v))) tA0) : EvT (model prog w) A env h e (decide (x.length ≠ 0)) := fun s Q E hs hq => by
 refine isTrue_plain (h1 s _ E hs fun v tk hv => ?_) hp
 obtain ⟨t, rfl⟩ := hv
 refine PySem.P.truthy_str (by omega) ?_
 have e : ((x.length : Int) != 0) = decide (x.length ≠ 0) := by
  by_cases h : x.length = 0
  ·rw [h]; rfl
  ·rw [decide_eq_true h]; simpa using h
 rw [e]
 exact hq _
theorem EvT.isNotNone {M : Model} {v : Value} (h1 : Ev M A env h eAZ (· = v)) (hb : autoParam (behindInMarks .IsNot (.Constant .none kZ pB) = false) tA0) : EvT M A env h (.Compare eAZ [.IsNot] [.Constant .none kZ pB] pos) (!(v == .none)) :=
 EvT.cmp h1 Ev.none (fun s Q E u z _ hu hz hq => by obtain rfl := hu; obtain rfl := hz; exact isnot_none_gen (hq s.toks)) hb
theorem st_augAdd {a b : Int} (F : Fr hZ L s.heap m) (N : News hZ L s.heap news) (hm : ∃ t, m x = some (.int a t)) (he : Ev (model prog w) A env s.heap e (IsI b))
  (hr : ∀ h' tk t, Fr hZ L h' (mput m x (.int (a + b) t)) -> News hZ L h' news -> wpAny (model prog w) A (execs rest env) Q E (St s h' tk))
  (hL : autoParam (env.locals = L) tA0) (hk : autoParam (env.scope.kind = .function) tA0) (hx : autoParam (env.kindOf x = some .local) tA0) (hp : autoParam ((env.scope.kind == .class || (env.scope.kind == .module && env.locals != env.globals)) = false) tA0) :
  wpAny (model prog w) A (execs (.AugAssign (.Name x pA) .Add e pos :: rest) env) Q E s := by
 subst hL
 obtain ⟨t, hm⟩ := hm
 refine wpAny_execs_cons (wpAny_AugAssign_Name (wpAny_loadName_local hk hx F.ns hm (he s _ E rfl fun v tk hv => ?_)))
 obtain ⟨u, rfl⟩ := hv
 refine PySem.AutoIntOps.iadd_0 ?_
 exact wpAny_storeName_local (s := (Tk s (tk + 1))) hx F.ns (fun h3 hn hs => hr h3 _ _ (F.set hn hs) (N.set hs)) hp
theorem field_named {id : String} {a : Array Value} {byName : Str -> Sem Value} {v : Value} {num : PySem.Builtin.Str.Numbering} {Q : Value × PySem.Builtin.Str.Numbering -> Shared -> Prop} {nm : List Nat} (hn : nm = (oS "line_number").cps.toList) (hb : byName (oS "line_number") = pure v)
  (h : Q (v, num) s) : wpAny (model prog w) A (PySem.Builtin.Str.fieldObject id (some a) byName nm num) Q E s := by
 subst hn
 unfold PySem.Builtin.Str.fieldObject
 have hsp : (oS "line_number").cps.toList.span (fun c => c != 46 && c != 91) = ((oS "line_number").cps.toList, []) := by decide +kernel
 rw [hsp]
 dsimp only
 refine wpAny_bind (wpAny_of_eq (a := none) (by cases num <;> rfl) ?_)
 refine wpAny_bind (wpAny_of_eq (a := (none, num)) (by cases num <;> rfl) ?_)
 refine wpAny_bind (wpAny_of_eq (a := v) hb ?_)
 rw [KPc.range_list]
 exact wpAny_bind (wpAny_pure (wpAny_pure h))
end
section
variable {prog : Program} {w : World} {A : Around} {E : Value -> Shared -> Prop} {s : Shared} {n : Int} {t u : Tok} {Q : Value -> Shared -> Prop}
theorem fmt_line (h0 : 0 <= n) (h1 : n <= 999999) (h : ∀ x t' k, Q (.str x t') (Tk s k)) : wpAny (model prog w) A (call (.builtin "str.format") [.str (oS "line {line_number}") t] [(oS "line_number", .int n u)]) Q E s := by
 have hd : n.natAbs.log2 < 1920 := shown (N := 1000000000) (by omega) (by omega) (by decide +kernel)
 refine wpAny_call (codeAny_call_builtin (by decide +kernel) F.entry_str_format_m (wpAny_of_eq (a := ()) (by kernel_rfl) ?_))
 unfold Builtin.«str.format»
 refine wpAny_bind (wpAny_of_eq (a := (_, _, _)) rfl ?_)
 refine wpAny_bind ?_
 unfold Builtin.Str.buildString
 refine wpAny_bind ?_
 rw [KPc.range_list]
 refine KFm.start ?_
 intro _ _
 refine KPc.turn ?_
 kpc_if
 kpc_check
 refine wpAny_bind (field_named (by decide +kernel) rfl ?_)
 refine wpAny_bind (wpAny_holding (wpAny_of_eq (a := _) rfl ?_))
 kpc_if
 refine wpAny_bind (wpAny_pure ?_)
 kfm_val
 refine wpAny_bind (wpAny_of_eq (a := some _) rfl ?_)
 refine wpAny_pure ?_
 refine KFm.after_field (by kpc_g) (by kpc_text) (by kpc_obj) (by kfm_len) (by kpc_obj) (by kfm_cat2) (by kfm_rest) ?_
 intro _ _
 refine KPc.turn ?_
 kpc_if
 refine wpAny_pure ?_
 refine wpAny_pure ?_
 refine KPc.finish_ok (by kpc_g) (by decide +kernel) rfl ?_
 intro t' k
 exact h _ t' k
end
section
variable {prog : Program} {w : World} {A : Around} {env : Env} {h : Heap} {e : Expr} {n : Int} {k0 : Nat} {pZ pA pB kp : Pos}
theorem Ev.fmtLine {pl : Sem Bool} (he : Ev (model prog w) A env h e (IsI n)) (h0 : 0 <= n) (h1 : n <= 999999)
  (hc : autoParam (eval (.Call (.Attribute (.Constant (.str (oS "line {line_number}")) k0 pZ) (oS "format") pA) [] [⟨some (oS "line_number"), e, kp⟩] pB) env = (do
   let ov <- eval (.Constant (.str (oS "line {line_number}")) k0 pZ) env
   standAt pA.atName
   let (f, first) <- holding [ov] (getMethod ov (oS "format") pl)
   callWith pB f first (backTo pB (starEach [] env)) (backToKw pB (keywordEach [⟨some (oS "line_number"), e, kp⟩] env)))) tA0) :
  Ev (model prog w) A env h (.Call (.Attribute (.Constant (.str (oS "line {line_number}")) k0 pZ) (oS "format") pA) [] [⟨some (oS "line_number"), e, kp⟩] pB) (fun v => ∃ x, IsS x v) := fun s Q E hh hq => by
 rw [hc]
 refine wpAny_bind (Ev.str (h := s.heap) s _ E rfl fun v tk hv => ?_)
 obtain ⟨t, rfl⟩ := hv
 refine wpAny_bind (wpAny_standAt (wpAny_bind (wpAny_holding (KFm.method ?_))))
 dsimp only
 refine callWith_of (P := fun _ => True) rfl (fun h _ => ⟨.machine, .inr (.inl rfl), Looks.now⟩) (evalArgs_kw_nil rfl ?_)
 refine wpAny_evalAll_cons (wpAny_bind (he (Tk s tk) _ E hh fun v tk' hv => wpAny_bind (wpAny_standAt (wpAny_pure (wpAny_evalAll_nil ⟨trivial, ?_⟩)))))
 obtain ⟨u, rfl⟩ := hv
 exact fmt_line h0 h1 fun x t' k => hq _ k ⟨x, t', rfl⟩
end
noncomputable def maxLed (hZ h : Heap) (ex : List Addr) : List (Addr × Obj) := (List.range h.objs.size).filterMap fun b => if (hZ.get? b).isNone && !(ex.contains b) then (match h.get? b with
 | some o => if o.cls == .type "list_iterator" || o.cls == .type "tuple_iterator" then none else some (b, o)
 | none => none) else none
theorem mem_maxLed {hZ h : Heap} {ex : List Addr} {b : Addr} {o : Obj} : (b, o) ∈ maxLed hZ h ex ↔ hZ.get? b = none /\ b ∉ ex /\ h.get? b = some o /\ plainO o := by
 unfold maxLed
 rw [List.mem_filterMap]
 constructor
 ·rintro ⟨c, _, hc⟩
  split at hc
  ·rename_i hcond
   split at hc
   ·rename_i o' ho'
    split at hc
    ·cases hc
    ·rename_i hp
     cases hc
     rw [Bool.and_eq_true] at hcond
     rw [Bool.or_eq_true] at hp
     exact ⟨Option.isNone_iff_eq_none.mp hcond.1, by simpa using hcond.2, ho', fun e => hp (.inl (beq_iff_eq.mpr e)), fun e => hp (.inr (beq_iff_eq.mpr e))⟩
   ·cases hc
  ·cases hc
 ·rintro ⟨h1, h2, h3, h4, h5⟩
  refine ⟨b, List.mem_range.mpr (Heap.lt_size h3), ?_⟩
  rw [if_pos (by rw [h1]; simpa using h2), h3]
  dsimp only
  rw [if_neg (by rw [Bool.or_eq_true]; exact fun e => e.elim (fun e => h4 (beq_iff_eq.mp e)) fun e => h5 (beq_iff_eq.mp e))]
section
variable {w : World} {hZ h h' : Heap} {L Lg : Addr} {m : Str -> Option Value} {ex : List Addr} {led : List (Addr × Obj)}
theorem news_maxLed (hL : L ∈ ex) : News hZ L h (maxLed hZ h ex) := fun q hq => by
 obtain ⟨b, o⟩ := q
 obtain ⟨h1, h2, h3, _⟩ := mem_maxLed.mp hq
 exact ⟨h3, fun e => h2 (by rw [show b = L from e]; exact hL), h1⟩
end
structure Kept (hZ : Heap) (L Lg : Addr) (sZ s : Shared) : Prop where
 ns : ∀ m, sZ.heap.Ns L m -> s.heap.Ns L m
 stays : hZ.StaysIn sZ.heap -> hZ.StaysIn s.heap
 old : ∀ q ∈ maxLed hZ sZ.heap [L, Lg], s.heap.get? q.1 = some q.2
 eq : ∃ h' tk, s = (St sZ h' tk)
theorem Kept.refl {hZ : Heap} {L Lg : Addr} {s : Shared} : Kept hZ L Lg s s := ⟨fun _ x => x, id, fun q hq => (mem_maxLed.mp hq).2.2.1, s.heap, s.toks, rfl⟩
theorem Kept.trans {hZ : Heap} {L Lg : Addr} {sZ sA sB : Shared} (x : Kept hZ L Lg sZ sA) (y : Kept hZ L Lg sA sB) : Kept hZ L Lg sZ sB := by
 refine ⟨fun m h => y.ns m (x.ns m h), fun h => y.stays (x.stays h), fun q hq => ?_, ?_⟩
 ·obtain ⟨b, o⟩ := q
  obtain ⟨h1, h2, _, h4⟩ := mem_maxLed.mp hq
  exact y.old _ (mem_maxLed.mpr ⟨h1, h2, x.old _ hq, h4⟩)
 ·obtain ⟨h1, t1, rfl⟩ := x.eq
  obtain ⟨h2, t2, rfl⟩ := y.eq
  exact ⟨h2, t2, rfl⟩
inductive LineOut (w : World) (x : Str) : Option (Option FD) -> Prop
 | skip : x.length = 0 -> LineOut w x none
 | bad : x.length ≠ 0 -> x.length <= 999999 -> (∀ news t, GivesC w 427 8 22 [.str x t] [] news "ValueError") -> LineOut w x (some none)
 | good {D : FD} : x.length ≠ 0 -> x.length <= 999999 -> (∀ news t, Gives w 427 8 22 [.str x t] [] news (MsgPst w news D)) -> LineOut w x (some (some D))
noncomputable def stripped (x : Str) : Str := Txt.strip ((Txt.split x (oS "#")).headD default)
noncomputable def Yields (w : World) (led : List (Addr × Obj)) (v : Value) (o : Option FD) : Prop :=
 ∃ t v1 v2 n, v = .ref t /\ (t, ({ cls := .type "tuple", data := .seq #[v1, v2] n } : Obj)) ∈ led /\ match o with
  | none => v1 = .none /\ ∃ x, IsS x v2
  | some D => v2 = .none /\ ∃ x, v1 = .ref x /\ MsgIs w led x D
noncomputable def genObj (g : Nat) (nm qn : Value) : Obj := { cls := .type "generator", data := .fields #[.int g 0, nm, qn] }
theorem callGen {w : World} {f : Addr} {vs : List Value} {A : Around} {env : Env} {hZ : Heap} {L : Addr} {m : Str -> Option Value} {led : List (Addr × Obj)} {s : Shared} {Q E : Value -> Shared -> Prop} {D U : Nat} (a : At w A env hZ L D U) (F : Fr hZ L s.heap m) (N : News hZ L s.heap led)
  {name qual : Str} {params : Arguments} {body : List Stmt} {scope : Scope} {dV kV doc pm cdv ct oc : Value} {an od : Option Addr} {osl : Array (Option Value)} (binds : List (Str × Value))
  (hret : ∀ (Lg ga : Addr) h' tk nm qn, L < Lg -> (∀ q ∈ led, q.1 ≠ Lg) -> (∀ q ∈ led, q.1 ≠ ga) -> Lg ≠ ga -> Fr hZ L h' m -> News hZ L h' ((ga, genObj s.gens.size nm qn) :: led) -> h'.Ns Lg (fun y => binds.reverse.lookup y) -> hZ.get? Lg = none ->
   Q (.ref ga) (Sg s h' (s.gens.push (.fresh (.func body (envOf qual scope Lg f cdv)))) tk))
  (ho : autoParam ((KK w.params).lookup f = some ⟨oc, od, .func (fnOf name qual params body scope dV kV doc pm an cdv ct), osl⟩) tA3) (hcd : autoParam (codeIn (KK w.params) cdv qual = true) tA3)
  (hbind : autoParam (∀ S, peek (KK w.params) S (bindArgs (fnOf name qual params body scope dV kV doc pm an cdv ct) ⟨vs, []⟩) = some binds) tA2) (hloc : autoParam ((binds.all fun x => decide (scope.names.lookup x.1 = some .local)) = true) tA0)
  (hco : autoParam (scope.isCoroutine = false) tA0) (hgen : autoParam (scope.isGenerator = true) tA0) (hk : autoParam (scope.kind = .function) tA0) (hcell : autoParam (∀ x ∈ scope.names, x.2 ≠ .cell) tA1) :
  wpAny (model pg w) A (call (.ref f) vs) Q E s := by
 obtain ⟨p, loose, mean, mg, mb, A₀, base, outer, B, T, hA⟩ := a.ex
 refine wpAny_call (codeAny_call_generator (fd := fnOf name qual params body scope dV kV doc pm an cdv ct) (body := body) (by have := a.dp; omega) ((a.K.keeps F.keep) _ _ ho) rfl hco hgen rfl (codeRec_of (a.K.keeps F.keep) hcd) ((kp_binds (a.K.keeps F.keep) hbind) _ _ _ _ ?_))
 refine wpAny_newFunctionEnv hcell (locs hloc) (fun hAZ hns hsb => ⟨(T.nolimit.keeps F.keep).fresh _ hsb, ?_⟩) hk
 dsimp only at hns hsb ⊢
 have keep : ∀ b o, s.heap.get? b = some o -> hAZ.get? b = some o := fun b o e => hsb.extBut b o (Nat.ne_of_lt (Heap.lt_size e)) (Heap.get?_push_of_some _ e)
 have sz : hAZ.objs.size = s.heap.objs.size + 1 := by rw [hsb.1, Heap.size_push]
 have F1 : Fr hZ L hAZ m := ⟨F.ns.at' fun o e => keep _ o e, fun b o e => keep b o (F.keep b o e), F.above⟩
 have N1 : News hZ L hAZ led := fun q hq => ⟨keep _ _ (N q hq).1, (N q hq).2⟩
 refine hret s.heap.objs.size hAZ.objs.size _ _ _ _ F.ns.lt (fun q hq => Nat.ne_of_lt (Heap.lt_size (N q hq).1)) (fun q hq => Nat.ne_of_lt (Heap.lt_size (N1 q hq).1)) (fun e => absurd (e.trans sz) (Nat.ne_of_lt (Nat.lt_succ_self _))) (F1.push _) (News.push F1 N1 _) (hns.keeps fun b o e => Heap.get?_push_of_some _ e) (next_is_new F)
structure AroundOk (A B : Around) (envg env : Env) : Prop where
 frames : B.frames = some [envg, env]
 handled : B.handled = none
 depth : B.depth <= A.depth + 2
 units : B.units <= A.units + 8
 d1 : 1 <= B.depth
 u3 : 3 <= B.units
theorem around_func {A : Around} {env envg : Env} {body : List Stmt} (hA : A.frames = some [env]) (hh : A.handled = none) : AroundOk A (A.in1.over (.func body envg) []) envg env := by
 refine ⟨?_, ?_, ?_, ?_, ?_, ?_⟩
 ·show pushEnvs [envg] (pushEnvs [] A.frames) = _
  rw [hA]; rfl
 ·exact hh
 ·show A.depth + 0 + 1 <= _; omega
 ·show A.units + 1 + 0 + 3 <= _; omega
 ·show 1 <= A.depth + 0 + 1; omega
 ·show 3 <= A.units + 1 + 0 + 3; omega
theorem around_loop {A : Around} {env envg : Env} {body b2 : List Stmt} {t : Expr} {it : Value} {k : Result -> Sem Fin} {g : Bool} {l : List Value} {p : Pos} (hA : A.frames = some [env]) (hh : A.handled = none) :
  AroundOk A (A.in1.over (.forLoop t it b2 [] envg) [.ret k none g l (.func body envg) p []]) envg env := by
 refine ⟨?_, ?_, ?_, ?_, ?_, ?_⟩
 ·show pushEnvs [] (pushEnvs [envg] A.frames) = _
  rw [hA]; rfl
 ·show (marksOver [Frame.ret k none g l (.func body envg) p []] (A.handled, A.handled)).1 = none
  rw [hh]; rfl
 ·show A.depth + 1 + 0 <= _; omega
 ·show A.units + 1 + 3 + 0 <= _; omega
 ·show 1 <= A.depth + 1 + 0; omega
 ·show 3 <= A.units + 1 + 3 + 0; omega
theorem gen_in {w : World} {A B : Around} {env envg : Env} {hZ h : Heap} {L Lg : Addr} {m mg : Str -> Option Value} {led : List (Addr × Obj)} {D U : Nat} (o : AroundOk A B envg env) (a : At w A env hZ L (D + 2) (U + 8)) (F : Fr hZ L h m) (N : News hZ L h led) (hn : hZ.get? Lg = none) (hns : h.Ns Lg mg) (hlt : L < Lg) (hlu : ∀ q ∈ led, q.1 ≠ Lg)
  (hf : envg.frame = some Lg) (hl : envg.locals = Lg) (hk : envg.scope.kind = .function) :
  ∃ g0, GenOk w B hZ envg env g0 L Lg m D U /\ Fr g0 Lg h mg /\ News g0 Lg h led := by
 obtain ⟨oL, es, ep, ho, _⟩ := id hns
 refine ⟨_, gen_enter (oL := oL) a F (fun q hq => ?_) hns hlt hlu o.frames o.handled hf hl hk (by have := o.depth; have := a.dp; omega) (by have := o.units; have := a.un; omega) o.d1 o.u3⟩
 rcases zC.mp hq with rfl | hq
 ·exact ⟨ho, Nat.ne_of_gt hlt, hn⟩
 ·exact N q hq
theorem gen_go {w : World} {A B : Around} {env envg : Env} {hZ : Heap} {L Lg : Addr} {m mg : Str -> Option Value} {led : List (Addr × Obj)} {D U : Nat} {M : Model} {α : Type} {t : Sem α} {Q : α -> Shared -> Prop} {E : Value -> Shared -> Prop} {s : Shared} (o : AroundOk A B envg env) (a : At w A env hZ L (D + 2) (U + 8)) (F : Fr hZ L s.heap m) (N : News hZ L s.heap led) (hn : hZ.get? Lg = none) (hns : s.heap.Ns Lg mg) (hlt : L < Lg) (hlu : ∀ q ∈ led, q.1 ≠ Lg)
  (h : ∀ g0, GenOk w B hZ envg env g0 L Lg m D U -> Fr g0 Lg s.heap mg -> News g0 Lg s.heap led -> wpC M B t Q E s) (hf : autoParam (envg.frame = some Lg) tA0) (hl : autoParam (envg.locals = Lg) tA0) (hk : autoParam (envg.scope.kind = .function) tA0) : wpC M B t Q E s := by
 obtain ⟨g0, h1, h2, h3⟩ := gen_in o a F N hn hns hlt hlu hf hl hk
 exact h g0 h1 h2 h3
section
variable {prog : Program} {w : World} {A : Around} {R : GenEnd} {Y : Protocol} {fs : List Frame} {env : Env}
theorem segC_turns {target : Expr} {it : Value} {body : List Stmt} (N : Nat) (Inv : Nat -> Nat -> Shared -> Shared -> Prop)
  (turn : ∀ i n sZ s, i < N -> Inv i n sZ s -> (∀ n' sZ' s', Inv (i + 1) n' sZ' s' -> SegC (model prog w) A R Y n' sZ' (.forLoop target it body [] env) (.pure (.again (.forLoop target it body [] env))) fs s') ->
   wpAny (model prog w) (A.over (.forLoop target it body [] env) fs) (pyNext it) (fun r s' => match r with
    | none => False
    | some v => wpAny (model prog w) (A.over (.forLoop target it body [] env) fs) (assign target env v) (fun _ s'' => SegC (model prog w) A R Y n sZ (.forLoop target it body [] env) ((execs body env).wrap (fun (f : Flow) => match f with
      | .next | .cont => .pure (.again (.forLoop target it body [] env))
      | .brk => .pure (.done .next)
      | .ret v => .pure (.done (.ret v))) (lostH env) id id) fs s'') (fun _ _ => False) s') (fun _ _ => False) s)
  (done : ∀ n sZ s, Inv N n sZ s -> wpAny (model prog w) (A.over (.forLoop target it body [] env) fs) (pyNext it) (fun r s' => match r with
    | none => SegC (model prog w) A R Y n sZ (.block [] env) (leafOf (.ok .next)) fs s'
    | some _ => False) (fun _ _ => False) s) (ht : autoParam (∀ v, letOwnedTupleGo target it v = pure ()) tA2) :
  ∀ i n sZ s, i <= N -> Inv i n sZ s -> SegC (model prog w) A R Y n sZ (.forLoop target it body [] env) ((model prog w).den (.forLoop target it body [] env)) fs s := by
 suffices h : ∀ j i n sZ s, i + j = N -> Inv i n sZ s -> SegC (model prog w) A R Y n sZ (.forLoop target it body [] env) ((model prog w).den (.forLoop target it body [] env)) fs s from fun i n sZ s hi hI => h (N - i) i n sZ s (by omega) hI
 intro j
 induction j with
 | zero =>
  intro i n sZ s hi hI
  obtain rfl : i = N := hi
  refine segC_forLoop (wpAny_mono (done n sZ s hI) (fun r s' h => ?_) fun _ _ x => x) ht
  cases r with
  | none => exact h
  | some v => exact h.elim
 | succ j ih =>
  intro i n sZ s hi hI
  refine segC_forLoop (wpAny_mono (turn i n sZ s (by omega) hI fun n' sZ' s' hI' => segC_again rfl (ih (i + 1) n' sZ' s' (by omega) hI')) (fun r s' h => ?_) fun _ _ x => x) ht
  cases r with
  | none => exact h.elim
  | some v => exact h
end
theorem ns_unique {h : Heap} {a : Addr} {m m' : Str -> Option Value} (x : h.Ns a m) (y : h.Ns a m') : m = m' := by
 obtain ⟨o, es, ep, ho, hd, _, hm⟩ := x
 obtain ⟨o', es', ep', ho', hd', _, hm'⟩ := y
 rw [ho] at ho'
 cases ho'
 rw [hd] at hd'
 cases hd'
 funext n
 rw [<- hm n, <- hm' n]
theorem maxLed_ne {hZ h : Heap} {L Lg : Addr} : ∀ q ∈ maxLed hZ h [L, Lg], q.1 ≠ Lg := fun q hq e => by
 obtain ⟨b, o⟩ := q
 exact (mem_maxLed.mp hq).2.1 (by rw [show b = Lg from e]; simp)
theorem kept_of {w : World} {B : Around} {env envg : Env} {hZ g0 g1 h' : Heap} {L Lg : Addr} {m mg' : Str -> Option Value} {led' : List (Addr × Obj)} {D U D' U' : Nat} {s : Shared} {tk : Nat} (k : GenOk w B hZ envg env g0 L Lg m D U) (hF : Fr hZ L s.heap m) (ax : AtX w B hZ envg [env] g1 Lg D' U') (hu : g0.UpToSlots g1) (F : Fr g1 Lg h' mg') (N : News g1 Lg h' led') (hl : ∀ q ∈ maxLed hZ s.heap [L, Lg], q ∈ led') :
  Kept hZ L Lg s (St s h' tk) /\ Fr hZ L h' m := by
 obtain ⟨F', _⟩ := gen_leave k ax hu hF.above F N
 refine ⟨⟨fun mA h1 => ?_, fun _ => F'.keep, fun q hq => (N q (hl q hq)).1, h', tk, rfl⟩, F'⟩
 rw [ns_unique h1 hF.ns]
 exact F'.ns
theorem kept_it {hZ h' : Heap} {L Lg I : Addr} {s : Shared} {tk : Nat} {m : Str -> Option Value} {oI : Obj} (hF : Fr hZ L s.heap m) (hk : ∀ b o, b ∉ [I] -> s.heap.get? b = some o -> h'.get? b = some o) (hI : s.heap.get? I = some oI) (hp : ¬ plainO oI) (hI0 : hZ.get? I = none) (hIL : I ≠ L) :
  Kept hZ L Lg s (St s h' tk) /\ Fr hZ L h' m := by
 have off : ∀ b o, b ≠ I -> s.heap.get? b = some o -> h'.get? b = some o := fun b o hb e => hk b o (fun q => hb (zS.mp q)) e
 have F' : Fr hZ L h' m := ⟨hF.ns.at' fun o e => off L o (Ne.symm hIL) e, fun b o e => off b o (fun z => by rw [z, hI0] at e; cases e) (hF.keep b o e), hF.above⟩
 refine ⟨⟨fun mA h1 => by rw [ns_unique h1 hF.ns]; exact F'.ns, fun _ => F'.keep, fun q hq => ?_, h', tk, rfl⟩, F'⟩
 obtain ⟨b, o⟩ := q
 obtain ⟨_, _, h3, h4⟩ := mem_maxLed.mp hq
 exact off b o (fun z => by rw [show b = I from z, hI] at h3; exact hp ((Option.some.inj h3) ▸ h4)) h3
theorem iter_not_plain {h : Heap} {I l : Addr} {i : Nat} (x : h.IsListIter I l i) : ∃ o, h.get? I = some o /\ ¬ plainO o := by
 obtain ⟨o, e, hc, _⟩ := x
 exact ⟨o, e, fun q => q.1 hc⟩
theorem kept_same {hZ h' : Heap} {L Lg : Addr} {s : Shared} {tk : Nat} {m : Str -> Option Value} (hF : Fr hZ L s.heap m) (hs : Heap.SameBut Lg s.heap h') (hn : hZ.get? Lg = none) (hne : L ≠ Lg) :
  Kept hZ L Lg s (St s h' tk) /\ Fr hZ L h' m := by
 have off : ∀ b o, b ≠ Lg -> s.heap.get? b = some o -> h'.get? b = some o := fun b o hb e => by rw [hs.2 b hb]; exact e
 have F' : Fr hZ L h' m := ⟨hF.ns.at' fun o e => off L o hne e, fun b o e => off b o (fun z => by rw [z, hn] at e; cases e) (hF.keep b o e), hF.above⟩
 refine ⟨⟨fun mA h1 => by rw [ns_unique h1 hF.ns]; exact F'.ns, fun _ => F'.keep, fun q hq => ?_, h', tk, rfl⟩, F'⟩
 exact off _ _ (maxLed_ne q hq) (mem_maxLed.mp hq).2.2.1
section
variable (w : World) (hZ : Heap) (L : Addr)
noncomputable def YieldP (ys : List (Option FD)) (Lg lst : Addr) (olst : Obj) : Protocol := fun n sZ v sA kap =>
 ∃ o led, ys[ys.length - 1 - n]? = some o /\ Kept hZ L Lg sZ sA /\ News hZ L sA.heap led /\ Yields w led v o /\ (∀ q ∈ led, plainO q.2 /\ q.1 ≠ Lg) /\
  ∃ I oL oI, sA.heap.get? Lg = some oL /\ sA.heap.get? I = some oI /\ hZ.get? I = none /\ I ≠ L /\ ¬ plainO oI /\
   ∀ s'', (∃ m, Fr hZ L s''.heap m) -> s''.heap.get? Lg = some oL -> s''.heap.get? I = some oI -> s''.heap.get? lst = some olst -> kap (.send .none) s''
noncomputable def EndP (Lg : Addr) : Nat -> Shared -> Shared -> Prop := fun n sZ sA => n = 0 /\ Kept hZ L Lg sZ sA
structure GFrame (mg : Str -> Option Value) (lst : Addr) (i : Nat) : Prop where
 ln : ∃ t, mg (oS "line_number") = some (.int ((i : Int) + 1) t)
 st : mg (oS "stream") = some (.ref lst)
end
noncomputable abbrev GenR (hZ : Heap) (L Lg : Addr) : GenEnd := fun n sZ r sA => r = .ok (.ret .none) /\ EndP hZ L Lg n sZ sA
structure GInv (hZ : Heap) (L Lg lst I : Addr) (olst : Obj) (i : Nat) (sZ s : Shared) : Prop where
 kept : Kept hZ L Lg sZ s
 law : ∃ m, Fr hZ L s.heap m
 own : ∃ mg, s.heap.Ns Lg mg /\ GFrame mg lst i
 it : s.heap.IsListIter I lst i
 lst : s.heap.get? lst = some olst
noncomputable def told (os : List (Option (Option FD))) (i : Nat) : Nat := ((os.drop i).filterMap id).length
theorem lst_plain {vs : List Value} {nl : Nat} : plainO (listOf vs.toArray nl) := ⟨by show Value.type "list" ≠ _; decide, by show Value.type "list" ≠ _; decide⟩
theorem turn_fin (w : World) {A A' : Around} {R : GenEnd} {Y : Protocol} {c : Code} {fs : List Frame} {n i : Nat} {sA s : Shared} {env envg : Env} {hZ : Heap} {L Lg lst I : Addr} {m mg : Str -> Option Value} {olst : Obj} {D U : Nat} {K : Flow -> Sem Fin} {H : Value -> Sem Fin} {gd : Bool -> Bool} {lv : List Value -> List Value} {p1 p2 p3 : Pos} {k2 : Nat}
  (o : AroundOk A (A'.over c fs) envg env) (a : At w A env hZ L (D + 2) (U + 8)) (kp : Kept hZ L Lg sA s) (F : Fr hZ L s.heap m) (hns : s.heap.Ns Lg mg) (hn : hZ.get? Lg = none) (hlt : L < Lg) (gf : GFrame mg lst i) (hit : s.heap.IsListIter I lst (i + 1)) (hlst : s.heap.get? lst = some olst) (hlg : lst ≠ Lg) (hl0 : hZ.get? lst = none) (hlL : lst ≠ L) (hlp : plainO olst)
  (hI : hZ.get? I = none) (hIg : I ≠ Lg) (hIL : I ≠ L) (again : ∀ s', GInv hZ L Lg lst I olst (i + 1) sA s' -> SegC (model pg w) A' R Y n sA c (K .next) fs s')
  (hf : autoParam (envg.frame = some Lg) tA0) (hl : autoParam (envg.locals = Lg) tA0) (hk : autoParam (envg.scope.kind = .function) tA0) (hx : autoParam (envg.kindOf (oS "line_number") = some .local) tA0) (hp : autoParam ((envg.scope.kind == .class || (envg.scope.kind == .module && envg.locals != envg.globals)) = false) tA0) :
  SegC (model pg w) A' R Y n sA c ((execs [.AugAssign (.Name (oS "line_number") p1) .Add (.Constant (.int 1) k2 p2) p3] envg).wrap K H gd lv) fs s := by
 obtain ⟨oI, hoI, hpI⟩ := iter_not_plain hit
 have N : News hZ L s.heap ((I, oI) :: maxLed hZ s.heap [L, Lg]) := fun q hq => by
  rcases zC.mp hq with rfl | hq
  ·exact ⟨hoI, hIL, hI⟩
  ·exact news_maxLed (by simp) q hq
 have hlu : ∀ q ∈ (I, oI) :: maxLed hZ s.heap [L, Lg], q.1 ≠ Lg := fun q hq => by
  rcases zC.mp hq with rfl | hq
  ·exact hIg
  ·exact maxLed_ne q hq
 refine segC_one (gen_go (D := D) (U := U) (led := (I, oI) :: maxLed hZ s.heap [L, Lg]) o a F N hn hns hlt hlu (fun g ok Fg Ng => ?_) hf hl hk)
 refine wpC_of (st_augAdd Fg Ng gf.ln Ev.int (fun h' tk t F2 N2 => ?_) hl hk hx hp)
 refine st_nil ?_
 dsimp only
 show SegC _ _ _ _ _ _ _ (K .next) _ _
 obtain ⟨kp2, F3⟩ := kept_of (s := s) (tk := tk) ok F ok.ax (Heap.UpToSlots.refl _) F2 N2 (fun q hq => .tail _ hq)
 refine again _ ⟨kp.trans kp2, ⟨_, F3⟩, ⟨_, F2.ns, ⟨t, ?_⟩, ?_⟩, ?_, ?_⟩
 ·exact congrArg (fun z => some (Value.int z t)) (by push_cast; rfl)
 ·exact gf.st
 ·obtain ⟨o', e', r'⟩ := hit
  rw [hoI] at e'
  cases e'
  exact ⟨oI, (N2 _ (.head _)).1, r'⟩
 ·exact (N2 _ (.tail _ (mem_maxLed.mpr ⟨hl0, by simp [hlL, hlg], hlst, hlp⟩))).1
theorem head_at (x : Str) : (Txt.split x (oS "#"))[0]? = some ((Txt.split x (oS "#")).headD default) := by
 cases h : Txt.split x (oS "#") with
 | cons z r => rfl
 | nil =>
  exfalso
  unfold Txt.split at h
  split at h
  ·cases h
  ·split at h
   ·cases h
   ·have := congrArg List.length h
    rw [length_partsBetween] at this
    simp at this
theorem MsgIs.plain {w : World} {news news' : List (Addr × Obj)} {x : Addr} {D : FD} (h : MsgIs w news x D) (hs : ∀ p ∈ news, plainO p.2 -> p ∈ news') : MsgIs w news' x D := by
 obtain ⟨dx, d, t, h1, h2, od, T, hm, ⟨lo, kvs, hd, hf⟩, hT⟩ := h
 refine ⟨dx, d, t, hs _ h1 ⟨by show Value.ref 418 ≠ _; simp, by show Value.ref 418 ≠ _; simp⟩, hs _ h2 ⟨by show Value.type "dict" ≠ _; decide, by show Value.type "dict" ≠ _; decide⟩, od, T.filter fun p => seqB p.2, hs _ hm ?_, ⟨lo, kvs, hd, fld_filter hf⟩, fun p hp => ?_⟩
 ·obtain ⟨_, _, hx, _⟩ := hd
  exact ⟨by rw [hx.1]; decide, by rw [hx.1]; decide⟩
 ·obtain ⟨hp1, hp2⟩ := List.mem_filter.mp hp
  refine (hT p hp1).imp (fun z => hs p z ⟨fun e => ?_, fun e => ?_⟩) id
  ·have : seqB p.2 = false := by unfold seqB; rw [e]; decide
   rw [this] at hp2; cases hp2
  ·have : seqB p.2 = false := by unfold seqB; rw [e]; decide
   rw [this] at hp2; cases hp2
theorem told_at {os : List (Option (Option FD))} {i : Nat} {o : Option (Option FD)} {d : Option FD} (h : os.drop i = o :: os.drop (i + 1)) (ho : o = some d) : (os.filterMap id)[(os.filterMap id).length - 1 - told os (i + 1)]? = some d := by
 subst ho
 have e : os.filterMap id = (os.take i).filterMap id ++ (d :: (os.drop (i + 1)).filterMap id) := by
  conv => lhs; rw [<- List.take_append_drop i os, h]
  rw [List.filterMap_append]; rfl
 rw [told, e, List.length_append, List.length_cons]
 rw [List.getElem?_append_right (by omega), show (List.filterMap id (List.take i os)).length + ((List.filterMap id (List.drop (i + 1) os)).length + 1) - 1 - (List.filterMap id (List.drop (i + 1) os)).length - (List.filterMap id (List.take i os)).length = 0 by omega]
 rfl
theorem fn_raises {A : Around} {env : Env} {base hZ : Heap} {outer : List Env} {L : Addr} {m : Str -> Option Value} {news : List (Addr × Obj)} {e eAZ : Expr} {es : List Expr} {X : String} {D U : Nat} {RL : List Value -> Prop} {pos : Pos} {s : Shared} {Q E : Value -> Shared -> Prop} {f : Addr} (a : AtX w A base env outer hZ L D U) (F : Fr hZ L s.heap m) (N : News hZ L s.heap news) (hf : ∀ h, Fr hZ L h m -> News hZ L h news -> Ev (model pg w) A env h eAZ (· = .ref f)) (hk : keepIn (KK w.params) (.ref f) = true)
  (he : ∀ h, Fr hZ L h m -> News hZ L h news -> EvL (model pg w) A env h (e :: es) RL) (G : ∀ vs, RL vs -> GivesC w f D U vs [] news X)
  (hE : ∀ b h' tk, RaisedX base env outer hZ L m news X b h' -> E (.ref b) (St s h' tk))
  (hs : autoParam (starEach (e :: es) env = (false, eval e env) :: starEach es env) tA0) (hn : autoParam (((backTo pos (starEach es env)).any fun x => x.1) = false) tA0)
  (hc : autoParam (eval (.Call eAZ (e :: es) [] pos) env = (do let f <- eval eAZ env; callWith pos f [] (backTo pos (starEach (e :: es) env)) (backToKw pos (keywordEach [] env)))) tA0) :
  wpC (model pg w) A (eval (.Call eAZ (e :: es) [] pos) env) Q E s := by
 rw [hc]
 refine wpC_bindA (hf _ F N s _ E rfl fun v tk hv => ?_)
 subst hv
 have he' := he _ F N (Tk s tk)
 rw [hs] at he' ⊢
 refine callWithC (P := fun h => (KK w.params).In h) (by show ((false || (backTo pos (starEach es env)).any fun x => x.1) || _) = false; rw [hn]; rfl) (keeps_K hk) (Calls.evalArgs_plain (he' _ E pos rfl fun vs tk' hvs => ⟨a.at_.K.keeps F.keep, ?_⟩))
 exact wpC_call (G vs hvs A base env outer hZ L m (Tk s tk') _ a F N fun b h' tk hR => hE b h' tk hR)
section
variable {M : Model} {A : Around} {R : GenEnd} {Y : Protocol} {n : Nat} {sZ : Shared} {c : Code} {fs : List Frame} {s : Shared} {env : Env} {K : Flow -> Sem Fin} {H : Value -> Sem Fin} {gd : Bool -> Bool} {lv : List Value -> List Value}
theorem segN {n' : Nat} {t : Sem Fin} (e : n = n') (h : SegC M A R Y n' sZ c t fs s) : SegC M A R Y n sZ c t fs s := e ▸ h
theorem segC_IfT {test : Expr} {body orelse rest : List Stmt} {pos : Pos} (e : EvT M (A.over c fs) env s.heap test true) (h : ∀ tk, SegC M A R Y n sZ c ((execs body env).wrap (fun f => match f with | .next => (execs rest env).wrap K H gd lv | f => K f) H gd lv) fs (Tk s tk)) :
  SegC M A R Y n sZ c ((execs (.If test body orelse pos :: rest) env).wrap K H gd lv) fs s := segC_If (e _ _ _ rfl fun tk => (if_pos rfl).mpr (h tk))
theorem segC_IfF {test : Expr} {body orelse rest : List Stmt} {pos : Pos} (e : EvT M (A.over c fs) env s.heap test false) (h : ∀ tk, SegC M A R Y n sZ c ((execs orelse env).wrap (fun f => match f with | .next => (execs rest env).wrap K H gd lv | f => K f) H gd lv) fs (Tk s tk)) :
  SegC M A R Y n sZ c ((execs (.If test body orelse pos :: rest) env).wrap K H gd lv) fs s := segC_If (e _ _ _ rfl fun tk => (if_neg Bool.false_ne_true).mpr (h tk))
end
theorem told_drop {os : List (Option (Option FD))} {o : Option FD} {i : Nat} (h : os.drop i = some o :: os.drop (i + 1)) : told os i = told os (i + 1) + 1 := by unfold told; rw [h]; rfl
theorem stream_call (w : World) {A : Around} {env : Env} {hZ : Heap} {L : Addr} {m : Str -> Option Value} {led : List (Addr × Obj)} {s : Shared} {Q E : Value -> Shared -> Prop} {D U : Nat} {lst : Addr} {vs : List Value} {nl : Nat} {xs : List Str} {os : List (Option (Option FD))}
  (a : At w A env hZ L (D + 12) (U + 40)) (hA : A.frames = some [env]) (F : Fr hZ L s.heap m) (N : News hZ L s.heap led) (hxs : StrsAre vs xs) (hlen : os.length = xs.length) (hz : xs.length <= 999) (hxl : ∀ x ∈ xs, x.length <= 999999) (ho : ∀ (i : Nat) (x : Str) (o : Option (Option FD)), xs[i]? = some x -> os[i]? = some o -> LineOut w (stripped x) o) (hlm : (lst, listOf vs.toArray nl) ∈ led)
  (hret : ∀ (Lg ga : Addr) h' tk nm qn oL c, L < Lg -> (∀ q ∈ led, q.1 ≠ Lg) -> (∀ q ∈ led, q.1 ≠ ga) -> Lg ≠ ga -> Fr hZ L h' m -> News hZ L h' ((Lg, oL) :: (ga, genObj s.gens.size nm qn) :: led) ->
   (∀ s', (∃ m', Fr hZ L s'.heap m') -> s'.heap.get? Lg = some oL -> s'.heap.get? lst = some (listOf vs.toArray nl) -> GoesC (model pg w) A.in1 (GenR hZ L Lg) (YieldP w hZ L (os.filterMap id) Lg lst (listOf vs.toArray nl)) (told os 0) (.fresh c) (.send .none) s') ->
   Q (.ref ga) (Sg s h' (s.gens.push (.fresh c)) tk)) :
  wpAny (model pg w) A (call (.ref 434) [.ref lst]) Q E s := by
 refine callGen a F N [(oS "stream", .ref lst)] (fun Lg ga h' tk nm qn hlt hl1 hl2 hne F1 N1 ns hn => ?_)
 obtain ⟨oL, esL, epL, hoL, hdL, hkL⟩ := id ns
 refine hret Lg ga h' tk nm qn oL _ hlt hl1 hl2 hne F1 (fun q hq => ?_) fun s' ⟨m', F'⟩ hLg hlst => ⟨rfl, segC_func ?_⟩
 ·rcases zC.mp hq with rfl | hq
  ·exact ⟨hoL, Nat.ne_of_gt hlt, hn⟩
  ·exact N1 q hq
 have ns' : s'.heap.Ns Lg _ := ns.at' fun o e => by rw [hoL] at e; rw [<- Option.some.inj e]; exact hLg
 have hlL := (N _ hlm).2.1
 have hl0 := (N _ hlm).2.2
 have hlg : lst ≠ Lg := hl1 _ hlm
 refine segC_one (gen_go (D := D) (U := U) (led := maxLed hZ s'.heap [L, Lg]) (around_func hA a.hh) (a.less (by omega) (by omega)) F' (news_maxLed (by simp)) hn ns' hlt maxLed_ne fun g0 ok0 Fg0 Ng0 => ?_)
 refine wpC_of (st_assign Fg0 Ng0 Ev.int ?_)
 intro y81 h1 tk1 y82 Fg1 Ng1
 obtain ⟨t1, rfl⟩ := y82
 refine st_nil ?_
 -- the loop
 refine segC_For (fun _ => rfl) ((show Ev (model pg w) _ _ h1 (.Name (oS "stream") _) (· = .ref lst) from Ev.nm Fg1 rfl) _ _ _ rfl fun v tk2 hv => ?_)
 subst hv
 refine wpAny_pyIter_list (Ng1.isList (mem_maxLed.mpr ⟨hl0, by simp [hlL, hlg], hlst, lst_plain⟩)) fun p => ?_
 dsimp only
 have hI0 : hZ.get? h1.objs.size = none := by
  cases q : hZ.get? h1.objs.size with
  | none => rfl
  | some o => exact absurd (Heap.lt_size (Fg1.keep _ _ (ok0.ax.bst _ _ q))) (Nat.lt_irrefl _)
 have hIg : Lg < h1.objs.size := Fg1.ns.lt
 have hIL : L < h1.objs.size := Nat.lt_trans hlt hIg
 have Fg2 := Fg1.push ({ cls := .type "list_iterator", data := .fields #[.ref lst, .int 0 0] } : Obj)
 have Ng2 := News.push Fg1 Ng1 ({ cls := .type "list_iterator", data := .fields #[.ref lst, .int 0 0] } : Obj)
 have hlst1 := (Ng1 _ (mem_maxLed.mpr ⟨hl0, by simp [hlL, hlg], hlst, lst_plain⟩)).1
 have hit : (h1.push ({ cls := .type "list_iterator", data := .fields #[.ref lst, .int 0 0] } : Obj)).IsListIter h1.objs.size lst 0 := ⟨_, Heap.get?_push_size _ rfl, rfl, rfl⟩
 have hlst2 := Heap.get?_push_of_some ({ cls := .type "list_iterator", data := .fields #[.ref lst, .int 0 0] } : Obj) hlst1
 have hlI : lst < h1.objs.size := Heap.lt_size hlst1
 have hlen2 : vs.toArray.size = xs.length := by rw [List.size_toArray, strs_len hxs]
 generalize hI : h1.objs.size = I at *
 refine segC_turns xs.length (fun i n sZ s => n = told os i /\ GInv hZ L Lg lst I (listOf vs.toArray nl) i sZ s) ?turn ?done (by intro _; rfl) 0 _ _ _ (Nat.zero_le _) ?init
 case init =>
  obtain ⟨kp, Fl⟩ := kept_of (s := s') (tk := tk2) ok0 F' ok0.ax (Heap.UpToSlots.refl _) Fg2 Ng2 (fun q hq => .tail _ hq)
  exact ⟨rfl, kp, ⟨_, Fl⟩, ⟨_, Fg2.ns, ⟨t1, rfl⟩, rfl⟩, hit, hlst2⟩
 case done =>
  rintro n sZ q ⟨rfl, inv⟩
  obtain ⟨oI, hoI, hpI⟩ := iter_not_plain inv.it
  obtain ⟨ml, Fl⟩ := inv.law
  have isl : q.heap.IsList lst vs.toArray := ⟨_, inv.lst, rfl, nl, rfl⟩
  refine (Walks.list (around_loop hA a.hh).handled I lst (Nat.ne_of_lt hlI) vs.toArray).done q _ _ ⟨by rw [hlen2]; exact inv.it, isl⟩ fun h3 tk3 hk3 => ?_
  obtain ⟨kp, _⟩ := kept_it (Lg := Lg) (tk := tk3) Fl hk3 hoI hpI hI0 (Nat.ne_of_gt hIL)
  refine segC_leaf (.ok .next) ?_
  show SegC _ _ _ _ _ _ _ (leafOf (.ok (.ret .none))) [] _
  exact segC_end _ ⟨rfl, by rw [told, <- hlen, List.drop_length]; rfl, inv.kept.trans kp⟩
 case turn =>
  intro i n sZ q hi y81 again
  obtain ⟨rfl, inv⟩ := y81
  obtain ⟨oI, hoI, hpI⟩ := iter_not_plain inv.it
  obtain ⟨ml, Fl⟩ := inv.law
  obtain ⟨mg, hmg, hgf⟩ := inv.own
  have isl : q.heap.IsList lst vs.toArray := ⟨_, inv.lst, rfl, nl, rfl⟩
  have hIgn : I ≠ Lg := Nat.ne_of_gt hIg
  refine (Walks.list (around_loop hA a.hh).handled I lst (Nat.ne_of_lt hlI) vs.toArray).item i q _ _ (by rw [hlen2]; exact hi) ⟨inv.it, isl⟩ fun v h3 tk3 hPV hit3 hk3 => ?_
  obtain ⟨kp3, Fl3⟩ := kept_it (Lg := Lg) (tk := tk3) Fl hk3 hoI hpI hI0 (Nat.ne_of_gt hIL)
  obtain ⟨x, tx, rfl, hx⟩ := strs_get hxs (by simpa using hPV)
  have off : ∀ b o, b ≠ I -> q.heap.get? b = some o -> h3.get? b = some o := fun b o hb e => hk3 b o (fun z => hb (zS.mp z)) e
  have hmg3 := hmg.at' fun o e => off Lg o (Ne.symm hIgn) e
  have hlst3 := off lst _ (Nat.ne_of_lt hlI) inv.lst
  refine wpAny_assign_Name (wpAny_storeName_local (by rfl) hmg3 (fun h4 hn4 hs4 => ?_) (by rfl))
  obtain ⟨oI3, hoI3, hpI3⟩ := iter_not_plain hit3.1
  obtain ⟨kp4, Fl4⟩ := kept_same (tk := tk3 + 1) Fl3 hs4 hn (Nat.ne_of_lt hlt)
  have hoI4 : h4.get? I = some oI3 := by rw [hs4.2 I hIgn]; exact hoI3
  have hlst4 : h4.get? lst = some (listOf vs.toArray nl) := by rw [hs4.2 lst hlg]; exact hlst3
  have hIm : ∀ (h : Heap), (I, oI3) ∉ maxLed hZ h [L, Lg] := fun h z => hpI3 (mem_maxLed.mp z).2.2.2
  have N4 : News hZ L h4 ((I, oI3) :: maxLed hZ h4 [L, Lg]) := fun q hq => by
   rcases zC.mp hq with rfl | hq
   ·exact ⟨hoI4, Nat.ne_of_gt hIL, hI0⟩
   ·exact news_maxLed (by simp) q hq
  have hlu4 : ∀ q ∈ (I, oI3) :: maxLed hZ h4 [L, Lg], q.1 ≠ Lg := fun q hq => by
   rcases zC.mp hq with rfl | hq
   ·exact hIgn
   ·exact maxLed_ne q hq
  refine segC_one (gen_go (D := 8) (U := 24) (led := (I, oI3) :: maxLed hZ h4 [L, Lg]) (around_loop hA a.hh) (a.less (by omega) (by omega)) Fl4 N4 hn hn4 hlt hlu4 fun g5 ok5 Fg5 Ng5 => ?_)
  refine wpC_of (st_assign Fg5 Ng5 Ev.none ?_)
  rintro _ h6 tk6 rfl Fg6 Ng6
  refine st_nil (segC_one (wpC_of (st_assign Fg6 Ng6 Ev.bool ?_)))
  rintro _ h7 tk7 rfl Fg7 Ng7
  have hxl' : x.length <= 999999 := hxl x (List.mem_of_getElem? hx)
  have hhl : ((Txt.split x (oS "#")).headD default).length <= x.length := part_short (List.mem_of_getElem? (head_at x))
  refine st_nil (segC_one (wpC_cons (wpC_Try_except (hidC fun Q1 E1 q1 q2 => ?_))))
  refine wpC_seq (st_assignN rfl Fg7 Ng7 (EvN.strip
   (EvN.item (j := 0) (P := fun vs => StrsAre vs (Txt.split x (oS "#"))) (R := IsS ((Txt.split x (oS "#")).headD default))
    (EvN.mono (EvN.split1 (EvN.mono (EvN.of fun h F N => Ev.nmS F rfl) fun v new h => h.1) (fun h F => Ev.str) (by decide +kernel) hxl') (by rintro _ _ ⟨d, us, n, nn, rfl, rfl, hu⟩; exact ⟨d, us, n, rfl, .head _, hu⟩))
    (fun h F => Ev.int) (fun vs hu => strs_at hu (head_at _))) (Nat.le_trans hhl hxl')) ?_)
  intro y81 new8 h8 tk8 y82 hl8 Fg8 Ng8
  obtain ⟨t8, rfl⟩ := y82
  obtain ⟨o, hoo⟩ : ∃ o, os[i]? = some o := ⟨_, List.getElem?_eq_getElem (by rw [hlen]; exact hi)⟩
  have out := ho i x o hx hoo
  have hdrop : os.drop i = o :: os.drop (i + 1) := by
   obtain ⟨hi', e⟩ := List.getElem?_eq_some_iff.mp hoo
   rw [List.drop_eq_getElem_cons hi', e]
  have hitof : ∀ {h : Heap}, h.get? I = some oI3 -> h.IsListIter I lst (i + 1) := fun e1 => by obtain ⟨o', e', r'⟩ := hit3.1; rw [hoI3] at e'; cases e'; exact ⟨oI3, e1, r'⟩
  have hlst4m : (lst, listOf vs.toArray nl) ∈ maxLed hZ h4 [L, Lg] := mem_maxLed.mpr ⟨hl0, by simp [hlL, hlg], hlst4, lst_plain⟩
  have kp34 := kp3.trans kp4
  have bound : (stripped x).length <= 99999999 := by
   cases out with
   | skip h => rw [h]; exact Nat.zero_le _
   | bad _ h _ => exact Nat.le_trans h (by decide)
   | good _ h _ => exact Nat.le_trans h (by decide)
  refine wpAny_execs_nil (st_ifC (EvT.text (x := stripped x) (Ev.nmS Fg8 rfl) bound) (fun hb tk9 => ?_) (fun hb tk9 => ?_))
  ·cases out with
   | skip h => exact absurd h (by simpa using hb)
   | bad h1 h2 hG =>
    refine wpC_cons (wpC_Assign (fn_raises (RL := fun vs => ∃ v, vs = [v] /\ IsS (stripped x) v) (ok5.ax.less (D' := 8) (U' := 22) (by decide) (by decide)) Fg8 Ng8 (fun h F N => Ev.glob (ok5.ax.at_.gl.keeps F.keep) (by k_is)) (by k_is) (fun h F N => EvL.one (Ev.nmS F rfl)) (fun vs hvs => by obtain ⟨_, rfl, u, rfl⟩ := hvs; exact hG _ _) (fun e9 h9 tk9' hR => ?_)))
    subst q1 q2
    refine caught_X (x := oS "ValueError") ok5.ax hR (fun q hq => (Ng8 q hq).2.2) (by k_is) PyProof.Rows.Boot.«ValueError» (by decide) PySem.F.isExc_ValueError PySem.F.notTuple_ValueError PySem.F.self_ValueError (fun h10 g10 tk10 E10 ax10 F10 N10 U10 => ?_)
    refine st_assign F10 N10 Ev.bool ?_
    rintro _ h11 tk11 rfl F11 N11
    refine st_nil (wpC_of (wpAny_execs_nil (segC_IfT ?_ fun tk12 => ?_)))
    ·exact EvT.bool (Ev.nm F11 rfl)
    refine segN (told_drop hdrop) (segC_Yield (by rfl) (by rfl) (by rfl) ?_)
    obtain ⟨tl, hln⟩ := hgf.ln
    refine EvN.tupP (fun h F N => EvL.cons Ev.none (EvL.one (Ev.fmtLine (n := (i : Int) + 1) (Ev.nmI F (by exact hln)) (by omega) (by omega)) rfl)) (by rintro _ ⟨_, _, rfl, _, _, rfl, _⟩; exact Nat.le_of_ble_eq_true rfl) _ _ _ F11 N11 fun v newt h12 tk12 hv hl12 Fg12 Ng12 => ?_
    obtain ⟨ta, _, ⟨_, _, rfl, rfl, _, rfl, hisS⟩, rfl, rfl⟩ := hv
    intro kap hkap
    obtain ⟨kp12, Fl12⟩ := kept_of (s := (St q h4 (tk3 + 1))) (tk := tk12) ok5 Fl4 ax10 U10 Fg12 Ng12 (fun z hz => zR _ (zR _ (.tail _ hz)))
    obtain ⟨_, oL'', N12⟩ := gen_leave ok5 ax10 U10 Fl4.above Fg12 Ng12
    have hy : (os.filterMap id)[(os.filterMap id).length - 1 - told os (i + 1)]? = some none := told_at hdrop rfl
    obtain ⟨e1, e2, e3⟩ := N12 _ (.tail _ (.head _))
    obtain ⟨oL12, esl, epl, hoL12, hdl, hkl, hml⟩ := id Fg12.ns
    refine ⟨none, maxLed hZ h12 [L, Lg], hy, inv.kept.trans (kp34.trans kp12), news_maxLed (by simp), ⟨ta, .none, _, 0, rfl, mem_maxLed.mpr ⟨e3, fun z => (zC.mp z).elim e2 fun z => (Ng12 _ (.head _)).2.1 (zS.mp z), e1, by show Value.type "tuple" ≠ _; decide, by show Value.type "tuple" ≠ _; decide⟩, rfl, hisS⟩, fun p hp => ⟨(mem_maxLed.mp hp).2.2.2, maxLed_ne p hp⟩,
     I, oL12, oI3, hoL12, (Ng12 (I, oI3) (.tail _ (zR [] (zR _ (.head _))))).1, hI0, Nat.ne_of_gt hIL, hpI3, fun s'' hF'' hLg'' hI'' hlst'' => hkap s'' ?_⟩
    obtain ⟨_, F''⟩ := hF''
    refine turn_fin w (D := 8) (U := 24) (around_loop hA a.hh) (a.less (by omega) (by omega)) Kept.refl F'' ⟨oL12, esl, epl, hLg'', hdl, hkl, hml⟩ hn hlt ⟨?_, ?_⟩ (hitof hI'') hlst'' hlg hl0 hlL lst_plain hI0 hIgn (Nat.ne_of_gt hIL) fun s' inv' => ?_
    ·exact hgf.ln
    ·exact hgf.st
    exact again _ _ _ ⟨rfl, inv'⟩
   | @good DD h1 h2 hG =>
    refine wpC_seq (st_assignN rfl Fg8 Ng8 (EvN.fn (RL := fun vs => ∃ v, vs = [v] /\ IsS (stripped x) v) (ok5.ax.at_.less (D' := 8) (U' := 22) (by decide) (by decide)) (fun h F N => Ev.glob (ok5.ax.at_.gl.keeps F.keep) (by k_is)) (by k_is) (fun h F N => EvL.one (Ev.nmS F rfl)) (fun vs hvs => by obtain ⟨_, rfl, u, rfl⟩ := hvs; exact hG _ _)) ?_)
    intro y81 new9 h9 tk9' y82 hl9 Fg9 Ng9
    obtain ⟨xm, rfl, hmsg⟩ := y82
    subst q1 q2
    refine wpAny_execs_nil (wpC_of (wpAny_execs_nil (wpC_of (wpAny_execs_nil (wpAny_execs_nil (wpC_of (wpAny_execs_nil (segC_IfF ?_ fun tk10 => segC_IfT ?_ fun tk11 => ?_))))))))
    ·exact EvT.bool (Ev.nm Fg9 rfl)
    ·exact EvT.isNotNone (v := .ref xm) (Ev.nm Fg9 rfl)
    refine segN (told_drop hdrop) (segC_Yield (by rfl) (by rfl) (by rfl) ?_)
    refine EvN.tupP (fun h F N => EvL.cons (Ev.nm F rfl) (EvL.one Ev.none rfl)) (by rintro _ ⟨_, _, rfl, _, _, rfl, _⟩; exact Nat.le_of_ble_eq_true rfl) _ _ _ Fg9 Ng9 fun v newt h12 tk12 hv hl12 Fg12 Ng12 => ?_
    obtain ⟨ta, _, ⟨_, _, rfl, rfl, _, rfl, rfl⟩, rfl, rfl⟩ := hv
    intro kap hkap
    obtain ⟨kp12, Fl12⟩ := kept_of (s := (St q h4 (tk3 + 1))) (tk := tk12) ok5 Fl4 ok5.ax (Heap.UpToSlots.refl _) Fg12 Ng12 (fun z hz => zR _ (zR _ (zR _ (.tail _ hz))))
    have inMax : ∀ p ∈ ((ta, ({ cls := .type "tuple", data := .seq #[Value.ref xm, Value.none] 0 } : Obj)) :: (new9 ++ (new8 ++ (I, oI3) :: maxLed hZ h4 [L, Lg]))), plainO p.2 -> p ∈ maxLed hZ h12 [L, Lg] := fun p hp hpl => by
     obtain ⟨n1, n2, n3⟩ := Ng12 p hp
     obtain ⟨_, oL'', N12⟩ := gen_leave ok5 ok5.ax (Heap.UpToSlots.refl _) Fl4.above Fg12 Ng12
     obtain ⟨e1, e2, e3⟩ := N12 p (.tail _ hp)
     exact mem_maxLed.mpr ⟨e3, fun z => (zC.mp z).elim e2 fun z => n2 (zS.mp z), e1, hpl⟩
    have hy : (os.filterMap id)[(os.filterMap id).length - 1 - told os (i + 1)]? = some (some DD) := told_at hdrop rfl
    have mt : plainO ({ cls := .type "tuple", data := .seq #[Value.ref xm, Value.none] 0 } : Obj) := ⟨by show Value.type "tuple" ≠ _; decide, by show Value.type "tuple" ≠ _; decide⟩
    obtain ⟨oL12, esl, epl, hoL12, hdl, hkl, hml⟩ := id Fg12.ns
    refine ⟨some DD, maxLed hZ h12 [L, Lg], hy, inv.kept.trans (kp34.trans kp12), news_maxLed (by simp), ⟨ta, .ref xm, .none, 0, rfl, inMax _ (.head _) mt, rfl, xm, rfl, hmsg.plain fun p hp hpl => inMax p (.tail _ hp) hpl⟩, fun p hp => ⟨(mem_maxLed.mp hp).2.2.2, maxLed_ne p hp⟩,
     I, oL12, oI3, hoL12, (Ng12 (I, oI3) (.tail _ (zR [] (zR _ (zR _ (.head _)))))).1, hI0, Nat.ne_of_gt hIL, hpI3, fun s'' hF'' hLg'' hI'' hlst'' => hkap s'' ?_⟩
    obtain ⟨_, F''⟩ := hF''
    refine turn_fin w (D := 8) (U := 24) (around_loop hA a.hh) (a.less (by omega) (by omega)) Kept.refl F'' ⟨oL12, esl, epl, hLg'', hdl, hkl, hml⟩ hn hlt ⟨?_, ?_⟩ (hitof hI'') hlst'' hlg hl0 hlL lst_plain hI0 hIgn (Nat.ne_of_gt hIL) fun s' inv' => ?_
    ·exact hgf.ln
    ·exact hgf.st
    exact again _ _ _ ⟨rfl, inv'⟩
  ·have h0 : (stripped x).length = 0 := by simpa using hb
   cases out with
   | bad h _ _ => exact absurd h0 h
   | good h _ _ => exact absurd h0 h
   | skip _ =>
   subst q1 q2
   refine wpC_of (wpAny_execs_nil (wpC_of (wpAny_execs_nil (wpAny_execs_nil (wpC_of (wpAny_execs_nil (segC_IfF ?_ fun tk10 => segC_IfF ?_ fun tk11 => ?_)))))))
   ·exact EvT.bool (Ev.nm Fg8 rfl)
   ·exact EvT.isNotNone (v := .none) (Ev.nm Fg8 rfl)
   obtain ⟨kp8, Fl8⟩ := kept_of (s := (St q h4 (tk3 + 1))) (tk := tk11) ok5 Fl4 ok5.ax (Heap.UpToSlots.refl _) Fg8 Ng8 (fun z hz => zR _ (.tail _ hz))
   refine turn_fin w (D := 8) (U := 24) (around_loop hA a.hh) (a.less (by omega) (by omega)) (inv.kept.trans (kp34.trans kp8)) Fl8 Fg8.ns hn hlt ⟨?_, ?_⟩ (hitof (Ng8 _ (zR _ (.head _))).1) (Ng8 _ (zR _ (.tail _ hlst4m))).1 hlg hl0 hlL lst_plain hI0 hIgn (Nat.ne_of_gt hIL) fun s' inv' => ?_
   ·exact hgf.ln
   ·exact hgf.st
   refine again _ _ _ ⟨?_, inv'⟩
   show told os i = told os (i + 1)
   unfold told
   rw [hdrop]; rfl
section
variable {w : World} {A : Around} {env : Env} {h hZ : Heap} {L : Addr} {m m' : Str -> Option Value} {news news' inn inn' out out' new : List (Addr × Obj)} {e eAZ eB : Expr} {es : List Expr} {R : Value -> Prop} {RN RN' : Value -> List (Addr × Obj) -> Prop} {x y nA nB : Str} {b : Bool} {pos pA pB pC : Pos} {s s0 : Shared} {Q : Flow -> Shared -> Prop} {E : Value -> Shared -> Prop} {rest body orelse : List Stmt} {D' U' : Nat}
theorem news_up {o : Obj} {new : List (Addr × Obj)} (N : News hZ L h (new ++ (227, o) :: news)) : News hZ L h ((227, o) :: (new ++ news)) := fun p hp => N p (by
 rcases zC.mp hp with rfl | hp
 ·exact zR _ (.head _)
 ·rcases zA.mp hp with hp | hp
  ·exact zL _ hp
  ·exact zR _ (.tail _ hp))
theorem EvL.mono {M : Model} {RL RL' : List Value -> Prop} (h1 : EvL M A env h es RL) (hr : ∀ vs, RL vs -> RL' vs) : EvL M A env h es RL' := fun s Q E pos hs hq => h1 s Q E pos hs fun vs tk hv => hq vs tk (hr vs hv)
theorem EvK.ofT {M : Model} (he : ∀ o, Tab o -> EvN M A env hZ L m ((227, o) :: news) e RN) : EvK M A env hZ L m news e RN := fun s Q E o F N ht hb hq =>
 he o ht s Q E F N fun v new h' tk hv hl F' N' => hq v new h' s.gens tk o hv hl ht hb F' (news_up N')
theorem MsgIs.dropO {q x' : Addr} {o : Obj} {D : FD} (h : MsgIs w (new ++ (q, o) :: news) x' D) (h1 : seqB o = false) (h2 : o.cls ≠ .type "dict") (h3 : o.cls ≠ .ref 418) : MsgIs w (new ++ news) x' D := by
 have keep : ∀ p : Addr × Obj, p ∈ new ++ (q, o) :: news -> p.2 ≠ o -> p ∈ new ++ news := fun p hp hne => by
  rcases zA.mp hp with hp | hp
  ·exact zL _ hp
  ·rcases zC.mp hp with rfl | hp
   ·exact absurd rfl hne
   ·exact zR _ hp
 obtain ⟨dx, d, t, i1, i2, i3⟩ := h
 exact ⟨dx, d, t, keep _ i1 fun e => h3 (e ▸ rfl), keep _ i2 fun e => h2 (e ▸ rfl), i3.drop h1 h2⟩
theorem MsgIs.dropT {x' : Addr} {o : Obj} {D : FD} (ht : Tab o) (h : MsgIs w (new ++ (227, o) :: news) x' D) : MsgIs w (new ++ news) x' D := by
 obtain ⟨ps, rfl, _⟩ := ht
 exact h.dropO (by rfl) (by show Value.none ≠ _; simp) (by show Value.none ≠ _; simp)
theorem DctIs.dropT {x' : Addr} {o : Obj} {D : FD} (ht : Tab o) (h : DctIs w (new ++ (227, o) :: news) x' D) : DctIs w (new ++ news) x' D := by
 obtain ⟨ps, rfl, _⟩ := ht
 exact h.drop (by rfl) (by show Value.none ≠ _; simp)
structure KS (s0 : Shared) (hZ : Heap) (L : Addr) (m : Str -> Option Value) (inn out : List (Addr × Obj)) (s : Shared) : Prop where
 eq : ∃ h g t, s = (Sg s0 h g t)
 ex : ∃ o, Fr hZ L s.heap m /\ News hZ L s.heap ((227, o) :: (inn ++ out)) /\ Tab o /\ AllBare s.gens
 ne : ∀ q ∈ inn ++ out, q.1 ≠ 227
 ap : Ap out inn
theorem KS.to {o : Obj} {g : Array GenState} {t : Nat} (K : KS s0 hZ L m inn out s) (F : Fr hZ L h m') (N : News hZ L h ((227, o) :: (inn' ++ out'))) (ht : Tab o) (hb : AllBare g) (hn : ∀ q ∈ inn' ++ out', q.1 ≠ 227) (ha : Ap out' inn') : KS s0 hZ L m' inn' out' (Sg s h g t) := by
 obtain ⟨_, _, _, rfl⟩ := K.eq
 exact ⟨⟨h, g, t, rfl⟩, ⟨o, F, N, ht, hb⟩, hn, ha⟩
theorem KS.same {o : Obj} {g : Array GenState} {t : Nat} (K : KS s0 hZ L m inn out s) (F : Fr hZ L h m') (N : News hZ L h ((227, o) :: (inn ++ out))) (ht : Tab o) (hb : AllBare g) : KS s0 hZ L m' inn out (Sg s h g t) := K.to F N ht hb K.ne K.ap
theorem KS.less (K : KS s0 hZ L m inn out s) (hs : ∀ p ∈ inn', p ∈ inn) : KS s0 hZ L m inn' out s := by
 obtain ⟨o, F, N, ht, hb⟩ := K.ex
 have hs' : ∀ p ∈ inn' ++ out, p ∈ inn ++ out := fun p hp => (zA.mp hp).elim (fun z => zL _ (hs p z)) fun z => zR _ z
 exact ⟨K.eq, ⟨o, F, fun p hp => N p (by
  rcases zC.mp hp with rfl | hp
  ·exact .head _
  ·exact .tail _ (hs' p hp)), ht, hb⟩, fun q hq => K.ne q (hs' q hq), fun q hq x hx => K.ap q hq x (hs x hx)⟩
theorem KS.more {o : Obj} {g : Array GenState} {t : Nat} (K : KS s0 hZ L m inn out s) (F : Fr hZ L h m') (N : News hZ L h ((227, o) :: (new ++ (inn ++ out)))) (ht : Tab o) (hb : AllBare g) (hl : ∀ q ∈ (227, o) :: (inn ++ out), ∀ x ∈ new, q.1 ≠ x.1) : KS s0 hZ L m' (new ++ inn) out (Sg s h g t) :=
 K.to F (by rw [List.append_assoc]; exact N) ht hb (fun q hq => by
  rw [List.append_assoc] at hq
  rcases zA.mp hq with hq | hq
  ·exact Ne.symm (hl _ (.head _) q hq)
  ·exact K.ne q hq) (fun q hq x hx => (zA.mp hx).elim (fun z => hl q (.tail _ (zR _ hq)) x z) fun z => K.ap q hq x z)
theorem ks_assign {M : Model} (K : KS s0 hZ L m inn out s) (hL : env.locals = L) (he : EvK M A env hZ L m (inn ++ out) e RN)
  (hr : ∀ v new s', RN v new -> (Ap (inn ++ out) new) -> KS s0 hZ L (mput m x v) (new ++ inn) out s' -> wpAny M A (execs rest env) Q E s')
  (hx : autoParam (env.kindOf x = some .local) tA0) (hp : autoParam ((env.scope.kind == .class || (env.scope.kind == .module && env.locals != env.globals)) = false) tA0) (hs : autoParam (swapsWith e (some (.Name x pA)) pos.line env = pure false) tA0) :
  wpAny M A (execs (.Assign [.Name x pA] e pos :: rest) env) Q E s := by
 subst hL
 obtain ⟨o, F, N, ht, hb⟩ := K.ex
 exact wpAny_execs_cons (wpAny_Assign_Name (he s _ E o F N ht hb fun v new h1 g1 tk o1 hv hl ht1 hb1 F1 N1 => wpAny_storeName_local hx F1.ns (fun h' hn hs => hr v new _ hv (fun q hq => hl q (.tail _ hq)) (K.more (F1.set hn hs) (N1.set hs) ht1 hb1 hl)) hp) hs)
theorem ks_pure {M : Model} (K : KS s0 hZ L m inn out s) (hL : env.locals = L) (he : ∀ h o, Fr hZ L h m -> News hZ L h ((227, o) :: (inn ++ out)) -> Ev M A env h e R)
  (hr : ∀ v s', R v -> KS s0 hZ L (mput m x v) inn out s' -> wpAny M A (execs rest env) Q E s')
  (hx : autoParam (env.kindOf x = some .local) tA0) (hp : autoParam ((env.scope.kind == .class || (env.scope.kind == .module && env.locals != env.globals)) = false) tA0) (hs : autoParam (swapsWith e (some (.Name x pA)) pos.line env = pure false) tA0) :
  wpAny M A (execs (.Assign [.Name x pA] e pos :: rest) env) Q E s :=
 ks_assign K hL (EvK.of he) (fun v new s' hv _ K' => by obtain ⟨hv, rfl⟩ := hv; exact hr v s' hv K') hx hp hs
theorem ks_skip {M : Model} (K : KS s0 hZ L m inn out s) (he : EvTK M A env hZ L m (inn ++ out) e b) (hf : b = false) (hr : ∀ s', KS s0 hZ L m inn out s' -> wpAny M A (execs rest env) Q E s') : wpAny M A (execs (.If e body [] pos :: rest) env) Q E s := by
 subst hf
 obtain ⟨o, F, N, ht, hb⟩ := K.ex
 exact wpAny_execs_cons (wpAny_If (he s _ E o F N ht hb fun h' g' tk o' ht' hb' F' N' => wpAny_execs_nil (hr _ (K.same F' N' ht' hb'))))
theorem ks_if {M : Model} (K : KS s0 hZ L m inn out s) (he : EvTK M A env hZ L m (inn ++ out) e b)
  (h1 : b = true -> ∀ s', KS s0 hZ L m inn out s' -> wpAny M A (execs body env) (fun f s' => match f with | .next => wpAny M A (execs rest env) Q E s' | f => Q f s') E s')
  (h2 : b = false -> ∀ s', KS s0 hZ L m inn out s' -> wpAny M A (execs orelse env) (fun f s' => match f with | .next => wpAny M A (execs rest env) Q E s' | f => Q f s') E s') : wpAny M A (execs (.If e body orelse pos :: rest) env) Q E s := by
 obtain ⟨o, F, N, ht, hb⟩ := K.ex
 refine wpAny_execs_cons (wpAny_If (he s _ E o F N ht hb fun h' g' tk o' ht' hb' F' N' => ?_))
 cases b with
 | true => exact h1 rfl _ (K.same F' N' ht' hb')
 | false => exact h2 rfl _ (K.same F' N' ht' hb')
theorem ks_item {d : Addr} {o : Obj} {D : FD} {kx : Str} {T : List (Addr × Obj)} {xv : FV} (K : KS s0 hZ L m ((d, o) :: inn) out s) (hL : env.locals = L) (he : EvK (model pg w) A env hZ L m ((d, o) :: (inn ++ out)) e RN)
  (hd : ∀ h, Fr hZ L h m -> Ev (model pg w) A env h eAZ (· = .ref d)) (hk : ∀ h, Fr hZ L h m -> Ev (model pg w) A env h eB (IsS kx)) (hD : DictIs pg w T d o D) (hv : ∀ v new, RN v new -> VIn (new ++ T) v xv) (hz : D.length <= 99) (ha : ∀ q ∈ inn, q.1 ≠ d)
  (hr : ∀ v new o' s', RN v new -> (∀ q ∈ (d, o) :: (inn ++ out), ∀ x ∈ new, q.1 ≠ x.1) -> KS s0 hZ L m ((d, o') :: (new ++ inn)) out s' -> DictIs pg w (new ++ T) d o' (dPut D kx xv) -> wpAny (model pg w) A (execs rest env) Q E s')
  (hs : autoParam (swapsWith e (some (.Subscript eAZ eB pA)) pos.line env = pure false) tA0) : wpAny (model pg w) A (execs (.Assign [.Subscript eAZ eB pA] e pos :: rest) env) Q E s := by
 subst hL
 obtain ⟨ot, F, N, ht, hb⟩ := K.ex
 refine wpAny_execs_cons (wpAny_Assign_Subscript (he s _ E ot F N ht hb fun v new h1 g1 tk o1 hvn hl ht1 hb1 F1 N1 => hd _ F1 _ _ E rfl fun dv tk' hdv => hk _ F1 _ _ E rfl fun kv tk'' hkv => ?_) hs)
 obtain rfl := hdv
 obtain ⟨t, rfl⟩ := hkv
 have hd227 : d ≠ 227 := fun z => K.ne (d, o) (.head _) z
 have N2 : News hZ env.locals h1 ((227, o1) :: (d, o) :: ((new ++ inn) ++ out)) := fun p hp => N1 p (by
  rcases zC.mp hp with rfl | hp
  ·exact .head _
  ·rcases zC.mp hp with rfl | hp
   ·exact .tail _ (zR _ (.head _))
   ·rw [List.append_assoc] at hp
    rcases zA.mp hp with hp | hp
    ·exact .tail _ (zL _ hp)
    ·exact .tail _ (zR _ (.tail _ hp)))
 have hap : ∀ q ∈ (new ++ inn) ++ out, q.1 ≠ d := fun q hq => by
  rw [List.append_assoc] at hq
  rcases zA.mp hq with hq | hq
  ·exact Ne.symm (hl _ (.tail _ (.head _)) q hq)
  ·exact (zA.mp hq).elim (ha q) fun z => K.ap q z (d, o) (.head _)
 refine d_set (s := (Sg s h1 g1 tk'')) (T := new ++ T) F1 N2 (.tail hd227.symm (.head hap)) (hD.mono fun p hp => zR _ hp) (hv v new hvn) hz fun h' o' F' N' hD' => hr v new o' _ hvn (fun q hq => hl q (.tail _ hq)) (K.to F' N' ht1 hb1 (fun q hq => ?_) fun q hq x hx => ?_) hD'
 ·rcases zC.mp hq with rfl | hq
  ·exact hd227
  ·have hq : q ∈ new ++ inn ++ out := hq
   rw [List.append_assoc] at hq
   rcases zA.mp hq with hq | hq
   ·exact Ne.symm (hl _ (.head _) q hq)
   ·exact K.ne q (.tail _ hq)
 ·rcases zC.mp hx with rfl | hx
  ·exact hap q (zR _ hq)
  ·rcases zA.mp hx with hx | hx
   ·exact hl q (.tail _ (.tail _ (zR _ hq))) x hx
   ·exact K.ap q hq x (.tail _ hx)
theorem ks_unpackT {kk : Nat} {P : Value -> Value -> List (Addr × Obj) -> Prop} (hh : A.handled = none) (K : KS s0 hZ L m inn out s) (hL : env.locals = L) (he : EvK (model pg w) A env hZ L m (inn ++ out) e (fun v new => ∃ a vA vB, v = .ref a /\ (a, tupO [vA, vB]) ∈ new /\ P vA vB new))
  (hr : ∀ vA vB new s', P vA vB new -> (Ap (inn ++ out) new) -> KS s0 hZ L (mput (mput m nA vA) nB vB) (new ++ inn) out s' -> wpAny (model pg w) A (execs rest env) Q E s')
  (hx1 : autoParam (env.kindOf nA = some .local) tA0) (hx2 : autoParam (env.kindOf nB = some .local) tA0) (hp : autoParam ((env.scope.kind == .class || (env.scope.kind == .module && env.locals != env.globals)) = false) tA0)
  (hs : autoParam (swapsWithSole [.Tuple [.Name nA pA, .Name nB pB] kk pC] e pos.line env = pure false) tA0)
  (hw : autoParam (swappedStores [.Tuple [.Name nA pA, .Name nB pB] kk pC] e env = pure none) tA0) :
  wpAny (model pg w) A (execs (.Assign [.Tuple [.Name nA pA, .Name nB pB] kk pC] e pos :: rest) env) Q E s := by
 subst hL
 obtain ⟨o, F, N, ht, hb⟩ := K.ex
 refine wpAny_execs_cons (Assign_Tuple (he s _ E o F N ht hb fun v new h1 g1 tk o1 hv hl ht1 hb1 F1 N1 => ?_) hs hw)
 obtain ⟨a, vA, vB, rfl, hm, hP⟩ := hv
 exact pair_store (s := (Sg s h1 g1 tk)) hh F1 N1 ⟨_, (N1 _ (.tail _ (zL _ hm))).1, rfl, _, rfl⟩ hx1 hx2 hp fun h' tk' F' N' => hr vA vB new _ hP (fun q hq => hl q (.tail _ hq)) (K.more F' N' ht1 hb1 hl)
theorem Upd.skip {l : Addr} {o o' : Obj} {out out' : List (Addr × Obj)} (U : Upd l o o' out out') : ∀ {inn : List (Addr × Obj)}, (∀ x ∈ inn, x.1 ≠ l) -> Upd l o o' (inn ++ out) (inn ++ out')
 | [], _ => U
 | p :: r, h => .tail (h p (.head _)) (Upd.skip U fun x hx => h x (.tail _ hx))
theorem ks_append {pl : Sem Bool} {l : Addr} {its : Array Value} {n : Nat} {out' : Value -> List (Addr × Obj)} (K : KS s0 hZ L m inn out s) (ho : ∀ h, Fr hZ L h m -> Ev (model pg w) A env h eAZ (· = .ref l)) (he : EvK (model pg w) A env hZ L m (inn ++ out) e RN)
  (U : ∀ v, Upd l (listOf its n) (listOf (its.push v) (n + 1)) out (out' v)) (hm : (l, listOf its n) ∈ out) (hkeys : ∀ v, ∀ q ∈ out' v, ∃ p ∈ out, p.1 = q.1) (hz : its.size <= 999999)
  (hr : ∀ v new s', RN v new -> (Ap (inn ++ out) new) -> KS s0 hZ L m (new ++ inn) (out' v) s' -> wpAny (model pg w) A (execs rest env) Q E s')
  (hs : autoParam (starEach [e] env = (false, eval e env) :: starEach [] env) tA0) (hnn : autoParam (((backTo pB (starEach [] env)).any fun x => x.1) = false) tA0) (hi : autoParam (interactive env = false) tA0) (hsw : autoParam (swapsWith (.Call (.Attribute eAZ (oS "append") pA) [e] [] pB) none pos.line env = pure false) tA0)
  (hc : autoParam (eval (.Call (.Attribute eAZ (oS "append") pA) [e] [] pB) env = (do
   let ov <- eval eAZ env
   standAt pA.atName
   let (f, first) <- holding [ov] (getMethod ov (oS "append") pl)
   callWith pB f first (backTo pB (starEach [e] env)) [])) tA0) : wpAny (model pg w) A (execs (.Expr (.Call (.Attribute eAZ (oS "append") pA) [e] [] pB) pos :: rest) env) Q E s := by
 obtain ⟨o, F, N, ht, hb⟩ := K.ex
 refine wpAny_execs_cons (wpAny_Expr_any ?_ hi hsw)
 refine MethodCall_ (ho _ F s _ E rfl fun v tk hv => ?_) hc
 subst hv
 refine listMethod_K N (.tail _ (zR _ hm)) PySem.F.slot_list_append PySem.F.type_list_append ?_
 refine PyProof.Rows.callWith_method1 (spliced_more (he (Tk s tk) _ E o F N ht hb fun v new h1 g1 tk1 o1 hv hl ht1 hb1 F1 N1 => spliced_none ?_) hs) hs hnn
 have hne : ∀ x ∈ new ++ inn, x.1 ≠ l := fun x hx => (zA.mp hx).elim (fun z => Ne.symm (hl (l, _) (.tail _ (zR _ hm)) x z)) fun z => Ne.symm (K.ap (l, _) hm x z)
 have h227 : (227 : Addr) ≠ l := fun z => K.ne (l, _) (zR _ hm) z.symm
 rw [<- List.append_assoc] at N1
 refine append_K (s := (Sg s h1 g1 tk1)) F1 N1 (.tail h227 (Upd.skip (U v) hne)) (fun h' F' N' => hr v new _ hv (fun q hq => hl q (.tail _ hq)) (K.to F' N' ht1 hb1 (fun q hq => ?_) fun q hq x hx => ?_)) (by rw [sizeLine_eq]; omega)
 ·rcases zA.mp hq with hq | hq
  ·rcases zA.mp hq with hq | hq
   ·exact Ne.symm (hl _ (.head _) q hq)
   ·exact K.ne q (zL _ hq)
  ·obtain ⟨p, hp, e⟩ := hkeys v q hq
   exact e ▸ K.ne p (zR _ hp)
 ·obtain ⟨p, hp, e⟩ := hkeys v q hq
  rw [<- e]
  exact (zA.mp hx).elim (fun z => hl p (.tail _ (zR _ hp)) x z) fun z => K.ap p hp x z
theorem ks_ifJ {M : Model} {P : (Str -> Option Value) -> List (Addr × Obj) -> List (Addr × Obj) -> Prop} (K : KS s0 hZ L m inn out s) (he : EvTK M A env hZ L m (inn ++ out) e b)
  (h1 : b = true -> ∀ s' (Q' : Flow -> Shared -> Prop), KS s0 hZ L m inn out s' -> (∀ m' inn' out' s'', KS s0 hZ L m' inn' out' s'' -> P m' inn' out' -> Q' .next s'') -> wpAny M A (execs body env) Q' E s')
  (h2 : b = false -> ∀ s' (Q' : Flow -> Shared -> Prop), KS s0 hZ L m inn out s' -> (∀ m' inn' out' s'', KS s0 hZ L m' inn' out' s'' -> P m' inn' out' -> Q' .next s'') -> wpAny M A (execs orelse env) Q' E s')
  (go : ∀ m' inn' out' s', P m' inn' out' -> KS s0 hZ L m' inn' out' s' -> wpAny M A (execs rest env) Q E s') : wpAny M A (execs (.If e body orelse pos :: rest) env) Q E s :=
 ks_if K he (fun hb s' K' => h1 hb s' _ K' fun m' inn' out' s'' K'' hP => go m' inn' out' s'' hP K'') (fun hb s' K' => h2 hb s' _ K' fun m' inn' out' s'' K'' hP => go m' inn' out' s'' hP K'')
theorem ks_dict {d : Addr} {o : Obj} {D : FD} {T r : List (Addr × Obj)} (K : KS s0 hZ L m ((d, o) :: (T ++ r)) out s) (hD : DictIs pg w T d o D) : ∃ T', KS s0 hZ L m ((d, o) :: (T' ++ r)) out s /\ DictIs pg w T' d o D /\ ∀ q ∈ T', q.1 ≠ d := by
 obtain ⟨lo, kvs, hd, hf⟩ := hD
 obtain ⟨ot, F, N, ht, hb⟩ := K.ex
 refine ⟨T.filter fun p => seqB p.2, K.less fun p hp => ?_, ⟨lo, kvs, hd, fld_filter hf⟩, fun q hq e => ?_⟩
 ·rcases zC.mp hp with rfl | hp
  ·exact .head _
  ·exact .tail _ ((zA.mp hp).elim (fun z => zL _ (List.mem_filter.mp z).1) fun z => zR _ z)
 ·obtain ⟨h1, h2⟩ := List.mem_filter.mp hq
  have e1 := (N q (.tail _ (.tail _ (zL _ (zL _ h1))))).1
  have e2 := (N (d, o) (.tail _ (.head _))).1
  rw [e] at e1
  have e3 : q.2 = o := Option.some.inj (e1.symm.trans e2)
  obtain ⟨es, ep, hx, _⟩ := hd
  rw [e3] at h2
  simp [seqB, hx.1] at h2
theorem EvN.dictM {pl : Sem Bool} {Dx : FD} (a : At w A env hZ L (1 + D') (3 + U')) (he : EvN (model pg w) A env hZ L m news e (fun v new => ∃ x, v = .ref x /\ MsgIs w (new ++ news) x Dx)) (hok : DictOk Dx)
  (hc : autoParam (eval (.Call (.Attribute e (oS "dict") pA) [] [] pB) env = (do
   let ov <- eval e env
   standAt pA.atName
   let (f, first) <- holding [ov] (getMethod ov (oS "dict") pl)
   callWith pB f first (backTo pB (starEach [] env)) [])) tA0) : EvN (model pg w) A env hZ L m news (.Call (.Attribute e (oS "dict") pA) [] [] pB) (fun v new => ∃ d, v = .ref d /\ DctIs w (new ++ news) d (dictD Dx)) := fun s Q E F N hq => by
 refine MethodCall_ (he s _ E F N fun v new h' tk hv hl F' N' => ?_) hc
 obtain ⟨x, rfl, hm⟩ := hv
 obtain ⟨dx, d, t, h1, h2, h3⟩ := id hm
 refine method_inst (K := KK w.params) (C := 418) (f := 302) (s := (St s h' tk)) F' a.K (InstAt.of_news N' h1 h2) (by k_is) (by k_is) (by k_is) (by rfl) ?_
 refine callWith_K0 (K := KK w.params) (s := (St s h' tk)) (a.K.keeps F'.keep) (by k_is) ?_
 refine msg_dict w (new ++ news) hm (fun _ hp => hp) hok A env hZ L m (St s h' tk) Q E (a.less (by omega) (by omega)) F' N' fun r new' h2 tk2 hp hl2 F2 N2 => ?_
 obtain ⟨d', rfl, hd⟩ := hp
 exact hq _ (new' ++ new) h2 tk2 ⟨d', rfl, by rw [List.append_assoc]; exact hd⟩ (apart_two hl hl2) F2 (by rw [List.append_assoc]; exact N2)
theorem EvN.dictP {pl : Sem Bool} {Dx : FD} {x' : Addr} (a : At w A env hZ L (1 + D') (3 + U')) (he : ∀ h, Fr hZ L h m -> News hZ L h news -> Ev (model pg w) A env h e (· = .ref x')) (hm : MsgIs w news' x' Dx) (hsub : ∀ p ∈ news', p ∈ news) (hok : DictOk Dx)
  (hc : autoParam (eval (.Call (.Attribute e (oS "dict") pA) [] [] pB) env = (do
   let ov <- eval e env
   standAt pA.atName
   let (f, first) <- holding [ov] (getMethod ov (oS "dict") pl)
   callWith pB f first (backTo pB (starEach [] env)) [])) tA0) : EvN (model pg w) A env hZ L m news (.Call (.Attribute e (oS "dict") pA) [] [] pB) (fun v new => ∃ d, v = .ref d /\ DctIs w (new ++ news') d (dictD Dx)) := fun s Q E F N hq => by
 refine MethodCall_ (he _ F N s _ E rfl fun v tk hv => ?_) hc
 subst hv
 obtain ⟨dx, d, t, h1, h2, h3⟩ := id hm
 refine method_inst (K := KK w.params) (C := 418) (f := 302) (s := (Tk s tk)) F a.K (InstAt.of_news N (hsub _ h1) (hsub _ h2)) (by k_is) (by k_is) (by k_is) (by rfl) ?_
 refine callWith_K0 (K := KK w.params) (s := (Tk s tk)) (a.K.keeps F.keep) (by k_is) ?_
 exact msg_dict w news hm hsub hok A env hZ L m (Tk s tk) Q E (a.less (by omega) (by omega)) F N fun r new' h2 tk2 hp hl2 F2 N2 => hq r new' h2 tk2 hp hl2 F2 N2
theorem EvN.fnN {f : Addr} {RL : List Value -> List (Addr × Obj) -> Prop} {RP : List Value -> List (Addr × Obj) -> Value -> List (Addr × Obj) -> Prop} (a : At w A env hZ L D' U') (hf : ∀ h, Fr hZ L h m -> News hZ L h news -> Ev (model pg w) A env h eAZ (· = .ref f)) (hk : keepIn (KK w.params) (.ref f) = true)
  (he : EvLN (model pg w) A env hZ L m news (e :: es) RL) (G : ∀ vs new, RL vs new -> Gives w f D' U' vs [] (new ++ news) (RP vs new)) (hR : ∀ vs new r new', RL vs new -> RP vs new r new' -> RN r (new' ++ new))
  (hs : autoParam (starEach (e :: es) env = (false, eval e env) :: starEach es env) tA0) (hn : autoParam (((backTo pos (starEach es env)).any fun x => x.1) = false) tA0)
  (hc : autoParam (eval (.Call eAZ (e :: es) [] pos) env = (do let f <- eval eAZ env; callWith pos f [] (backTo pos (starEach (e :: es) env)) (backToKw pos (keywordEach [] env)))) tA0) : EvN (model pg w) A env hZ L m news (.Call eAZ (e :: es) [] pos) RN := fun s Q E F N hq => by
 refine Call_ (hf _ F N s _ E rfl fun v tk hv => ?_) hc
 subst hv
 refine callWith_K a.K hk (he (Tk s tk) _ E pos F N fun vs new h' tk' hvs hl F' N' => ⟨a.K.keeps F'.keep, ?_⟩) hs hn
 exact G vs new hvs A env hZ L m (St s h' tk') Q E a F' N' fun r new' h2 tk2 hp hl2 F2 N2 => hq r (new' ++ new) h2 tk2 (hR vs new r new' hvs hp) (apart_two hl hl2) F2 (by rw [List.append_assoc]; exact N2)
theorem EvN.cmN {pl : Sem Bool} {nm : Str} {fa pa : Addr} {rs : List Value} {RL : List Value -> List (Addr × Obj) -> Prop} (a : At w A env hZ L D' U') (h1 : ∀ h, Fr hZ L h m -> News hZ L h news -> Ev (model pg w) A env h eAZ (· = .ref 418))
  (he : ∀ q f, EvLN (model pg w) A env hZ L m ((q, methodObj f (.ref 418)) :: news) (e :: es) RL)
  (G : ∀ q vs new, RL vs new -> GivesL w fa D' U' (.ref 418 :: vs) [] (new ++ (q, methodObj (.ref fa) (.ref 418)) :: news) (fun r led => ∃ new', led = new' ++ (new ++ (q, methodObj (.ref fa) (.ref 418)) :: news) /\ RN r (new' ++ new) /\ ∀ p ∈ new ++ (q, methodObj (.ref fa) (.ref 418)) :: news, ∀ x ∈ new', p.1 ≠ x.1))
  (hg : specialIn (KK w.params) (.ref 418) "__getattribute__" = some (some (.builtin "type.__getattribute__"))) (hm : typeIn (KK w.params) (.ref 418) = some (.type "type")) (hr : readsIn (KK w.params) 418 (.type "type") = true)
  (hf : findCls (KK w.params) (.ref 418) (.type "type") nm = some (.get (.builtin "classmethod.__get__") (.ref pa) .none (.ref 418))) (hp : recIn (KK w.params) pa "classmethod" = some (.ref fa :: rs)) (hfn : fnIn (KK w.params) fa = true)
  (hs : autoParam (starEach (e :: es) env = (false, eval e env) :: starEach es env) tA0) (hnn : autoParam (((backTo pB (starEach es env)).any fun x => x.1) = false) tA0)
  (hc : autoParam (eval (.Call (.Attribute eAZ nm pA) (e :: es) [] pB) env = (do
   let ov <- eval eAZ env
   standAt pA.atName
   let (f, first) <- holding [ov] (getMethod ov nm pl)
   callWith pB f first (backTo pB (starEach (e :: es) env)) [])) tA0) : EvN (model pg w) A env hZ L m news (.Call (.Attribute eAZ nm pA) (e :: es) [] pB) RN := fun s Q E F N hq => by
 refine MethodCall_ (h1 _ F N s _ E rfl fun v tk hv => ?_) hc
 subst hv
 refine method_of_cls (K := KK w.params) (s := (Tk s tk)) F a.K hg (cls_cm (s := (Tk s tk)) F a.K N hm hr hf hp fun q h2 F2 N2 lt => ?_)
 refine callWith_M (s := (St s h2 _)) a.K N2 (.head _) hfn (he q _ (St s h2 _) _ E pB F2 N2 fun vs new h3 tk' hvs hl F3 N3 => ⟨methP N3 (zR _ (.head _)) (a.K.keeps F3.keep), ?_⟩) hs hnn
 refine call_meth (s := (St s h3 tk')) N3 (zR _ (.head _)) ?_
 refine G q vs new hvs A env hZ L m (St s h3 tk') _ a F3 N3 fun r led h4 tk4 hpost F4 N4 => ?_
 obtain ⟨new', rfl, hrn, hl2⟩ := hpost
 exact hq r (new' ++ new) h4 tk4 hrn (apart_two (fun p hp x hx => hl p (.tail _ hp) x hx) fun p hp x hx => hl2 p ((zA.mp hp).elim (fun z => zL _ z) fun z => zR _ (.tail _ z)) x hx) F4 (fun p hp => N4 p (by
  rw [List.append_assoc] at hp
  rcases zA.mp hp with hp | hp
  ·exact zL _ hp
  ·rcases zA.mp hp with hp | hp
   ·exact zR _ (zL _ hp)
   ·exact zR _ (zR _ (.tail _ hp))))
theorem EvN.itemN {P : List Value -> Prop} {j : Nat} (h1 : EvN (model pg w) A env hZ L m news eAZ (fun v new => LstIn (new ++ news) P v)) (h2 : ∀ h, Fr hZ L h m -> News hZ L h news -> Ev (model pg w) A env h eB (IsI j)) (hx : ∀ vs, P vs -> ∃ v, vs[j]? = some v /\ R v) (hj : autoParam (j < 9999) tA1)
  (hs : autoParam (∀ l u, subscripted eB false (.ref l) (.int j u) = operate [.ref l, .int j u] (getItem (.ref l) (.int j u))) tA4) : EvN (model pg w) A env hZ L m news (.Subscript eAZ eB pos) (fun v _ => R v) := fun s Q E F N hq => by
 refine Subscript_ (h1 s _ E F N fun u new h' tk hu hl F' N' => h2 _ F' (fun p hp => N' p (zR _ hp)) (St s h' tk) _ E rfl fun v tk' hv => ?_)
 obtain ⟨a, vs, n, rfl, hm, hp⟩ := hu
 obtain ⟨t, rfl⟩ := hv
 obtain ⟨v, hv, hr⟩ := hx vs hp
 have hlst := N'.isList hm
 exact tail_any hlst.typeIs slot_list_getitem.lookup (wpAny_getItem_list hlst (by omega) (by omega) (by simpa using hv) (hq v new h' tk' hr hl F' N')) (hs a t)
theorem EvTK.msgEq {Dx Dy : FD} (a : At w A env hZ L (1 + D') (104 + U')) (h1 : EvK (model pg w) A env hZ L m news eAZ (fun v new => ∃ x, v = .ref x /\ MsgIs w (new ++ news) x Dx)) (h2 : ∀ news', (∀ p ∈ news, p ∈ news') -> EvK (model pg w) A env hZ L m news' eB (fun v new => ∃ y, v = .ref y /\ MsgIs w (new ++ news') y Dy))
  (hb : autoParam (behindInMarks .Eq eB = false) tA0) : EvTK (model pg w) A env hZ L m news (.Compare eAZ [.Eq] [eB] pos) (dEq Dx Dy) :=
 EvTK.cmp (RNB := fun v led => ∃ y, v = .ref y /\ MsgIs w led y Dy) h1 h2 (fun s Q E u v newA led o hu hv hsub F N ht hbr hq => by
  obtain ⟨x, rfl, hmx⟩ := hu
  obtain ⟨y, rfl, hmy⟩ := hv
  have hmx' := hmx.mono hsub
  obtain ⟨dx, d, t, i1, i2, _⟩ := id hmx'
  obtain ⟨dy, d', t', j1, j2, _⟩ := id hmy
  have N' : News hZ L s.heap led := fun p hp => N p (.tail _ hp)
  refine cmp_ofEq (cmp_K (K := KK w.params) (C := 418) (f := 335) (tb := .ref 418) (by have := a.un; omega) F a.K (InstAt.of_news N' i1 i2) (fun A Q E s => (InstAt.of_news N' j1 j2).type A Q E s) (by k_is) (by k_is) (by k_is) ?_)
  refine msg_eq w ((227, o) :: led) (hmx'.mono fun p hp => .tail _ hp) (hmy.mono fun p hp => .tail _ hp) A env hZ L m s _ E (a.less (by omega) (by omega)) F N fun r new h' tk hp hl F2 N2 => ?_
  obtain ⟨rfl, rfl⟩ := hp
  exact hq h' tk F2 fun p hp => N2 p (by
   rcases zC.mp hp with rfl | hp
   ·exact .head _
   ·exact .tail _ (hsub p (zR _ hp)))) hb
theorem EvTK.dNe {Dx Dy : FD} (a : At w A env hZ L D' (100 + U')) (h1 : EvK (model pg w) A env hZ L m news eAZ (fun v new => ∃ x, v = .ref x /\ DctIs w (new ++ news) x Dx)) (h2 : ∀ news', (∀ p ∈ news, p ∈ news') -> EvK (model pg w) A env hZ L m news' eB (fun v new => ∃ y, v = .ref y /\ DctIs w (new ++ news') y Dy))
  (hb : autoParam (behindInMarks .NotEq eB = false) tA0) : EvTK (model pg w) A env hZ L m news (.Compare eAZ [.NotEq] [eB] pos) (!dEq Dx Dy) :=
 EvTK.cmp (RNB := fun v led => ∃ y, v = .ref y /\ DctIs w led y Dy) h1 h2 (fun s Q E u v newA led o hu hv hsub F N ht hbr hq => by
  obtain ⟨x, rfl, hmx⟩ := hu
  obtain ⟨y, rfl, ob, Tb, mb, hDb, hTb⟩ := hv
  obtain ⟨oa, Ta, ma, hDa, hTa⟩ := hmx.mono hsub
  have N' : News hZ L s.heap led := fun p hp => N p (.tail _ hp)
  refine d_ne (T := Ta ++ Tb) N' (fun p hp => ?_) ma mb (hDa.mono fun p hp => zL _ hp) (hDb.mono fun p hp => zR _ hp) (by have := a.un; omega) (hq s.heap s.toks F fun p hp => N p (by
   rcases zC.mp hp with rfl | hp
   ·exact .head _
   ·exact .tail _ (hsub p (zR _ hp))))
  rcases zA.mp hp with hp | hp
  ·exact hTa.get a F N' p hp
  ·exact hTb.get a F N' p hp) hb
theorem EvTK.dEq {Dx Dy : FD} (a : At w A env hZ L D' (100 + U')) (h1 : EvK (model pg w) A env hZ L m news eAZ (fun v new => ∃ x, v = .ref x /\ DctIs w (new ++ news) x Dx)) (h2 : ∀ news', (∀ p ∈ news, p ∈ news') -> EvK (model pg w) A env hZ L m news' eB (fun v new => ∃ y, v = .ref y /\ DctIs w (new ++ news') y Dy))
  (hb : autoParam (behindInMarks .Eq eB = false) tA0) : EvTK (model pg w) A env hZ L m news (.Compare eAZ [.Eq] [eB] pos) (Mine.dEq Dx Dy) :=
 EvTK.cmp (RNB := fun v led => ∃ y, v = .ref y /\ DctIs w led y Dy) h1 h2 (fun s Q E u v newA led o hu hv hsub F N ht hbr hq => by
  obtain ⟨x, rfl, hmx⟩ := hu
  obtain ⟨y, rfl, ob, Tb, mb, hDb, hTb⟩ := hv
  obtain ⟨oa, Ta, ma, hDa, hTa⟩ := hmx.mono hsub
  have N' : News hZ L s.heap led := fun p hp => N p (.tail _ hp)
  refine d_eq (T := Ta ++ Tb) N' (fun p hp => ?_) ma mb (hDa.mono fun p hp => zL _ hp) (hDb.mono fun p hp => zR _ hp) (by have := a.un; omega) (hq s.heap s.toks F fun p hp => N p (by
   rcases zC.mp hp with rfl | hp
   ·exact .head _
   ·exact .tail _ (hsub p (zR _ hp))))
  rcases zA.mp hp with hp | hp
  ·exact hTa.get a F N' p hp
  ·exact hTb.get a F N' p hp) hb
theorem EvN.tupAdd {ns : List Int} {n : Int} {T : List (Addr × Obj)} {kk : Nat} (a : At w A env hZ L D' U') (h1 : ∀ h, Fr hZ L h m -> News hZ L h news -> Ev (model pg w) A env h eAZ (fun v => VIn T v (.tup ns))) (hT : TOk w T news) (h2 : ∀ h, Fr hZ L h m -> News hZ L h news -> Ev (model pg w) A env h eB (IsI n)) (hz : ns.length <= 99)
  (hs : autoParam (starEach [eB] env = (false, eval eB env) :: starEach [] env) tA0) :
  EvN (model pg w) A env hZ L m news (.BinOp eAZ .Add (.Tuple [eB] kk pA) pos) (fun v new => ∃ b vs k, v = .ref b /\ (b, ({ cls := .type "tuple", data := .seq vs.toArray k } : Obj)) ∈ new /\ IntsAre vs (ns ++ [n])) := fun s Q E F N hq => by
 refine wpAny_BinOp (h1 _ F N s _ E rfl fun u tk hu => EvN.tupP (fun h F N => EvL.one (h2 h F N) hs) (by rintro _ ⟨_, rfl, _⟩; exact Nat.le_of_ble_eq_true rfl) (Tk s tk) _ E F N fun v new h' tk' hv hl F' N' => ?_)
 obtain ⟨b, _, ⟨_, rfl, t, rfl⟩, rfl, rfl⟩ := hv
 cases hu with
 | @tup c vs k _ hc hi =>
  have N0 : News hZ L h' news := fun p hp => N' p (.tail _ hp)
  refine add_tuples_right (s := (St s h' tk')) (ws := [.int n t]) (ms := [n]) F' N' ⟨_, hT.get a F' N0 _ hc, rfl, _, rfl⟩ ⟨_, (N' _ (.head _)).1, rfl, _, rfl⟩ hi (.cons _ _ .nil) (by simp) (fun h0 => ?_) (fun h2 F2 N2 hi2 => ?_) (by rw [hi.length, sizeLine_eq]; show _ + 1 <= _; omega)
  ·subst h0
   exact hq _ _ h' tk' ⟨b, _, 0, rfl, .head _, .cons _ _ .nil⟩ hl F' N'
  ·have ha := above_size (s := (St s h' tk')) (o := { cls := .type "tuple", data := .seq (vs ++ [Value.int n t]).toArray }) F' N'
   exact hq _ [(_, _), (b, _)] h2 tk' ⟨_, _, _, rfl, .head _, hi2⟩ (apart_two hl ha) F2 N2
theorem gdict (P : Params) : nsIn (KK P) mainGlobals (oS "dict") = some Option.none := by with_unfolding_all rfl
theorem EvN.dictOf {d : Addr} {o : Obj} {D : FD} {T : List (Addr × Obj)} (a : At w A env hZ L D' U') (he : ∀ h, Fr hZ L h m -> News hZ L h news -> Ev (model pg w) A env h e (· = .ref d)) (hm : (d, o) ∈ news) (hD : DictIs pg w T d o D) (hz : D.length <= 99)
  (hg : autoParam (env.globals = mainGlobals) tA0) (hbl : autoParam (env.builtins = builtinsNs) tA0) (hk : autoParam (env.scope.kind = .function) tA0) (hx : autoParam (env.kindOf (oS "dict") = some .globalImplicit) tA0)
  (hs : autoParam (starEach [e] env = (false, eval e env) :: starEach [] env) tA0) (hn : autoParam (((backTo pos (starEach [] env)).any fun x => x.1) = false) tA0)
  (hc : autoParam (eval (.Call (.Name (oS "dict") pA) [e] [] pos) env = (do let f <- eval (.Name (oS "dict") pA) env; callWith pos f [] (backTo pos (starEach [e] env)) (backToKw pos (keywordEach [] env)))) tA0) :
  EvN (model pg w) A env hZ L m news (.Call (.Name (oS "dict") pA) [e] [] pos) (fun v new => ∃ b o', v = .ref b /\ new = [(b, o')] /\ DictIs pg w T b o' D) := by
 obtain ⟨p, loose, mean, mg, mb, AA, baseA, outerA, BA, TT, hAA⟩ := a.ex
 refine EvN.type1 (T := "dict") (fun h F N => Ev.built (a.gl.keeps F.keep) (gdict _) (by rfl) (by decide) hg hbl hk hx) (EvN.of he) (fun s Q E v new hv hl F N hq => ?_) hs hn hc
 obtain ⟨rfl, rfl⟩ := hv
 exact d_of F N TT.nolimit hm hD hz fun d' h' o' F' N' lt hD' => hq _ [_] h' s.toks ⟨d', o', rfl, rfl, hD'⟩ (fun q hq x hx => by rw [zS.mp hx]; exact Nat.ne_of_lt (lt q hq)) F' N'
theorem EvN.listL {P : List Value -> Prop} (a : At w A env hZ L D' U') (he : EvN (model pg w) A env hZ L m news e (fun v new => LstIn (new ++ news) P v)) (hz : ∀ vs, P vs -> vs.length <= 9999)
  (hg : autoParam (env.globals = mainGlobals) tA0) (hbl : autoParam (env.builtins = builtinsNs) tA0) (hk : autoParam (env.scope.kind = .function) tA0) (hx : autoParam (env.kindOf (oS "list") = some .globalImplicit) tA0)
  (hs : autoParam (starEach [e] env = (false, eval e env) :: starEach [] env) tA0) (hn : autoParam (((backTo pos (starEach [] env)).any fun x => x.1) = false) tA0)
  (hc : autoParam (eval (.Call (.Name (oS "list") pA) [e] [] pos) env = (do let f <- eval (.Name (oS "list") pA) env; callWith pos f [] (backTo pos (starEach [e] env)) (backToKw pos (keywordEach [] env)))) tA0) :
  EvN (model pg w) A env hZ L m news (.Call (.Name (oS "list") pA) [e] [] pos) (NewL P) := by
 refine EvN.type1 (T := "list") (fun h F N => Ev.built (a.gl.keeps F.keep) (glist _) (by rfl) (by decide) hg hbl hk hx) he (fun s Q E v new hv hl F N hq => ?_) hs hn hc
 obtain ⟨l, vs, n, rfl, hm, hp⟩ := hv
 refine list_copyK F N (N.isList hm) (fun D c h' F' N' lt => ?_) (by have := hz vs hp; rw [List.size_toArray, sizeLine_eq]; omega)
 exact hq _ ((D, _) :: new) h' s.toks ⟨D, vs, c, new, rfl, rfl, hp⟩ (fun q hq x hx => by
  rcases zC.mp hx with rfl | hx
  ·exact Nat.ne_of_lt (lt q (zR _ hq))
  ·exact hl q hq x hx) F' N'
end
noncomputable def lawBody : List Stmt := (stP (topFn 49)).1
noncomputable def lawScope : Scope := ((stP (topFn 49)).2.2.map (·.2.2)).getD default
noncomputable def turnBody : List Stmt := (stP ((lawBody[5]?).getD (.Pass default))).1
noncomputable def tb (i : Nat) : List Stmt := turnBody.drop i
noncomputable abbrev lawEnv (L : Addr) : Env := envOf (oS "law") lawScope L 519 (.ref 518)
noncomputable def kOf (n : Int) : Nat := (Int.fmod n 18).toNat
noncomputable def whenOf (n : Int) : Int := Int.fmod n 2000001 - 1000000
noncomputable abbrev isSx (k : Nat) : Bool := kname k == oS "sysex"
noncomputable def thirdOf (k : Nat) (n1 n2 : Int) : Int := if isSx k = true then Int.fmod n1 8 else Int.fdiv n2 128
noncomputable def lvD (k : Nat) (n1 n2 : Int) : FD := lvalues k n1 n2 (thirdOf k n1 n2)
noncomputable def valD (k : Nat) (n1 n2 n3 : Int) : FD := if isSx k = true then dPut (lvD k n1 n2) (oS "data") (.tup (dSeq (lvD k n1 n2) (oS "data") ++ [Int.fmod n3 128])) else lvD k n1 n2
noncomputable def fldD (k : Nat) (V : FD) (when : Int) : FD := dPut (dPut V (oS "type") (.str (kname k))) (oS "time") (.int when)
noncomputable def toldS (k : Nat) (V : FD) : Str := Txt.join (oS " ") (kname k :: lwords k V)
noncomputable def fullS (k : Nat) (V : FD) (when : Int) : Str := toldS k V ++ oS " time=" ++ intStr when
noncomputable def shownD (k : Nat) (V D : FD) : FD := if isSx k = true then dPut D (oS "data") (.lst (dSeq V (oS "data"))) else D
noncomputable def putW (S : FD) (D : FD) (x : Str) : FD := dPut D (nameIn x) ((dAt S (nameIn x)).getD (.int 0))
noncomputable def answerD (k : Nat) (S : FD) (ws : List Str) : FD := ws.foldl (putW S) (ldefaults k)
theorem kOf_lt (n : Int) : kOf n < 18 := by
 have h1 := Int.fmod_nonneg_of_pos n (show (0 : Int) < 18 by decide)
 have h2 := Int.fmod_lt_of_pos n (show (0 : Int) < 18 by decide)
 unfold kOf; omega
theorem kOf_cast (n : Int) : Int.fmod n 18 = ((kOf n : Nat) : Int) := (Int.toNat_of_nonneg (Int.fmod_nonneg_of_pos n (by decide))).symm
theorem whenOf_small (n : Int) : Small (whenOf n) := by
 have h1 := Int.fmod_nonneg_of_pos n (show (0 : Int) < 2000001 by decide)
 have h2 := Int.fmod_lt_of_pos n (show (0 : Int) < 2000001 by decide)
 unfold whenOf; constructor <;> omega
structure LM (na la wa : Addr) (i : Nat) (m : Str -> Option Value) : Prop where
 nums : m (oS "numbers") = some (.ref na)
 lines : m (oS "lines") = some (.ref la)
 want : m (oS "wanted") = some (.ref wa)
 plc : ∃ t, m (oS "place") = some (.int ((4 * i : Nat) : Int) t)
structure N1 (k : Nat) (when : Int) (vd fd : Addr) (m : Str -> Option Value) : Prop where
 row : m (oS "row") = some (.ref (444 + 2 * k))
 when : ∃ t, m (oS "when") = some (.int when t)
 vals : m (oS "values") = some (.ref vd)
 flds : m (oS "fields") = some (.ref fd)
structure Four (na : Addr) (out : List (Addr × Obj)) (i : Nat) (n0 n1 n2 n3 : Int) : Prop where
 ex : ∃ nvs nn t0 t1 t2 t3, (na, listOf (nvs : List Value).toArray nn) ∈ out /\ nvs[4 * i]? = some (.int n0 t0) /\ nvs[4 * i + 1]? = some (.int n1 t1) /\ nvs[4 * i + 2]? = some (.int n2 t2) /\ nvs[4 * i + 3]? = some (.int n3 t3) /\ 4 * i + 3 < 99
structure Turn1 (k : Nat) (n1 n2 n3 : Int) : Prop where
 data : isSx k = true -> dAt (lvD k n1 n2) (oS "data") = some (.tup (dSeq (lvD k n1 n2) (oS "data"))) /\ (dSeq (lvD k n1 n2) (oS "data")).length <= 90
 len : (lvD k n1 n2).length <= 90
section
variable {w : World} {A : Around} {L : Addr} {h hZ : Heap} {m : Str -> Option Value} {inn out : List (Addr × Obj)} {s s0 : Shared} {Q : Flow -> Shared -> Prop} {E : Value -> Shared -> Prop} {na la wa : Addr} {i : Nat} {n0 n1 n2 n3 : Int}
theorem row_tup (a : At w A (lawEnv L) hZ L 20 200) {k : Nat} (hk : k < 18) : ∃ t n u, ∀ {h m}, Fr hZ L h m -> IsTup h (444 + 2 * k) ([.str (kname k) t, .int n u, .bool (kchan k), .ref (443 + 2 * k)] : List Value).toArray := by
 obtain ⟨t, n, u, hrow⟩ := row_lk w.params hk
 exact ⟨t, n, u, fun F => tupK (a.K.keeps F.keep) hrow⟩
theorem Ev.numAt {z n : Int} {j kk : Nat} {v : Value} {nvs : List Value} {tp : Tok} {pA pB pC pD pE : Pos} (F : Fr hZ L h m) (h1 : m (oS "numbers") = some (.ref na)) (h2 : m (oS "place") = some (.int n tp)) (hl : h.IsList na nvs.toArray) (hx : nvs[j]? = some v) (hz : n + z = (j : Int)) (hj : j < 999) :
  Ev (model pg w) A (lawEnv L) h (.Subscript (.Name (oS "numbers") pA) (.BinOp (.Name (oS "place") pB) .Add (.Constant (.int z) kk pC) pD) pE) (· = v) :=
 Ev.lstI (j := j) (Ev.nm F h1) (hz ▸ Ev.add (Ev.nmI F h2) Ev.int) hl hx hj
theorem Ev.numI {z n y : Int} {j kk : Nat} {t : Tok} {nvs : List Value} {tp : Tok} {pA pB pC pD pE : Pos} (F : Fr hZ L h m) (h1 : m (oS "numbers") = some (.ref na)) (h2 : m (oS "place") = some (.int n tp)) (hl : h.IsList na nvs.toArray) (hx : nvs[j]? = some (.int y t)) (hz : n + z = (j : Int)) (hj : j < 999) :
  Ev (model pg w) A (lawEnv L) h (.Subscript (.Name (oS "numbers") pA) (.BinOp (.Name (oS "place") pB) .Add (.Constant (.int z) kk pC) pD) pE) (IsI y) :=
 Ev.mono (Ev.numAt F h1 h2 hl hx hz hj) fun _ e => ⟨t, e⟩
theorem Ev.num0 {n y : Int} {j : Nat} {t : Tok} {nvs : List Value} {tp : Tok} {pA pB pE : Pos} (F : Fr hZ L h m) (h1 : m (oS "numbers") = some (.ref na)) (h2 : m (oS "place") = some (.int n tp)) (hl : h.IsList na nvs.toArray) (hx : nvs[j]? = some (.int y t)) (hz : n = (j : Int)) (hj : j < 999) :
  Ev (model pg w) A (lawEnv L) h (.Subscript (.Name (oS "numbers") pA) (.Name (oS "place") pB) pE) (IsI y) :=
 Ev.mono (Ev.lstI (j := j) (Ev.nm F h1) (hz ▸ Ev.nmI F h2) hl hx hj) fun _ e => ⟨t, e⟩
theorem turn1 (a : At w A (lawEnv L) hZ L 20 200) (K : KS s0 hZ L m [] out s) (lm : LM na la wa i m) (f4 : Four na out i n0 n1 n2 n3) (T1 : Turn1 (kOf n0) n1 n2 n3)
  (go : ∀ m' inn' s' vd fd, KS s0 hZ L m' inn' out s' -> LM na la wa i m' -> N1 (kOf n0) (whenOf n3) vd fd m' ->
   DctIs w inn' vd (valD (kOf n0) n1 n2 n3) -> DctIs w inn' fd (fldD (kOf n0) (valD (kOf n0) n1 n2 n3) (whenOf n3)) -> wpAny (model pg w) A (execs (tb 9) (lawEnv L)) Q E s') :
  wpAny (model pg w) A (execs (tb 0) (lawEnv L)) Q E s := by
 conv => enter [3, 1]; whnf
 obtain ⟨nvs, nn, t0, t1, t2, t3, hn, h0, h1, h2, h3, hi⟩ := f4.ex
 obtain ⟨tp, hp⟩ := lm.plc
 have hk := kOf_lt n0
 have G := fun {h} {m} (F : Fr hZ L h m) => a.gl.keeps F.keep
 obtain ⟨tr, nr, ur, trow⟩ := row_tup a hk
 have nl : ∀ {h : Heap} {o : Obj} {inn : List (Addr × Obj)}, News hZ L h ((227, o) :: (inn ++ out)) -> h.IsList na nvs.toArray := fun N => N.isList (.tail _ (zR _ hn))
 refine ks_pure K rfl (fun h o F N => Ev.lstI (j := kOf n0) (l := (List.range 18).map fun k => .ref (444 + 2 * k)) (v := .ref (444 + 2 * kOf n0)) (Ev.glob (G F) (by k_is)) (Ev.mono (Ev.mod (Ev.num0 F (by exact lm.nums) (by exact hp) (nl N) h0 (by omega) (by omega)) Ev.int) fun v e => by rw [<- kOf_cast]; exact e) ⟨_, a.K.keeps F.keep _ _ (list_lk _), rfl, _, rfl⟩ (by simp [hk]) (by omega)) ?_
 rintro _ s1 rfl K
 refine ks_pure K rfl (fun h o F N => Ev.sub (Ev.mod (Ev.numI F (by exact lm.nums) (by exact hp) (nl N) h3 (by omega) (by omega)) Ev.int) Ev.int) ?_
 intro y81 s1 y82 K
 obtain ⟨tw, rfl⟩ := y82
 refine ks_pure K rfl (fun h o F N => Ev.fdiv (Ev.numI F (by exact lm.nums) (by exact hp) (nl N) h2 (by omega) (by omega)) Ev.int) ?_
 intro y81 s1 y82 K
 obtain ⟨tt, rfl⟩ := y82
 refine ks_ifJ (P := fun m' inn' out' => inn' = [] /\ out = out' /\ LM na la wa i m' /\ m' (oS "row") = some (.ref (444 + 2 * kOf n0)) /\ (∃ t, m' (oS "when") = some (.int (whenOf n3) t)) /\ ∃ t, m' (oS "third") = some (.int (thirdOf (kOf n0) n1 n2) t)) K
  (EvTK.of fun h o F N => EvT.eqS (Ev.row0 F rfl (trow F)) Ev.str) (fun hb s2 Q' K back => ?_) (fun hb s2 Q' K back => wpAny_execs_nil (back _ _ _ _ K ⟨rfl, rfl, ⟨lm.nums, lm.lines, lm.want, lm.plc⟩, rfl, ⟨tw, rfl⟩, tt, by rw [thirdOf, if_neg (ne_true_of_eq_false hb)]; rfl⟩)) ?_
 ·refine ks_pure K rfl (fun h o F N => Ev.mod (Ev.numI F (by exact lm.nums) (by exact hp) (nl N) h1 (by omega) (by omega)) Ev.int) ?_
  intro y81 s3 y82 K
  obtain ⟨tt2, rfl⟩ := y82
  exact wpAny_execs_nil (back _ _ _ _ K ⟨rfl, rfl, ⟨lm.nums, lm.lines, lm.want, lm.plc⟩, rfl, ⟨tw, rfl⟩, tt2, by rw [thirdOf, if_pos hb]; rfl⟩)
 clear K lm hp tp
 intro m y81 y82 s2 y83 K
 obtain ⟨rfl, rfl, lm, hrow, ⟨tw, hwhen⟩, tt, hth⟩ := y83
 obtain ⟨tp, hp⟩ := lm.plc
 refine ks_assign K rfl (EvK.ofN fun o => EvN.fn (a.less (D' := 2) (U' := 6) (by decide) (by decide)) (fun h F N => Ev.glob (G F) (by k_is)) (by k_is) (fun h F N => EvL.cons (Ev.nm F (by exact hrow)) (EvL.cons (Ev.numAt F (by exact lm.nums) (by exact hp) (nl (inn := []) N) h1 (by omega) (by omega)) (EvL.cons (Ev.numAt F (by exact lm.nums) (by exact hp) (nl (inn := []) N) h2 (by omega) (by omega)) (EvL.one (Ev.nm F (by exact hth)) rfl)))) (fun vs hvs => by
  obtain ⟨_, _, rfl, rfl, _, _, rfl, rfl, _, _, rfl, rfl, _, rfl, rfl⟩ := hvs
  exact law_values w _ (kOf n0) hk n1 n2 _ t1 t2 tt)) ?_
 intro y81 y82 s3 y83 hl K
 obtain ⟨vd, ov, T, rfl, rfl, hD⟩ := y83
 obtain ⟨T, K, hD, hTd⟩ := ks_dict K hD
 refine ks_ifJ (P := fun m' inn' out' => m' = (mput m (oS "values") (.ref vd)) /\ out = out' /\ ∃ o r, inn' = (vd, o) :: r /\ DictIs pg w r vd o (valD (kOf n0) n1 n2 n3)) K
  (EvTK.of fun h o F N => EvT.eqS (Ev.row0 F (by exact hrow) (trow F)) Ev.str) (fun hb s4 Q' K back => ?_) (fun hb s4 Q' K back => wpAny_execs_nil (back _ _ _ _ K ⟨rfl, rfl, ov, _, rfl, by rw [valD, if_neg (ne_true_of_eq_false hb)]; exact hD.mono fun p hp => zL _ hp⟩)) ?_
 ·obtain ⟨hd1, hd2⟩ := T1.data hb
  refine ks_item (T := T ++ []) K rfl (EvK.ofN fun o => EvN.tupAdd a (fun h F N => Ev.dItem N (.tail _ (.head _)) (Ev.nm F rfl) Ev.str hD hd1) (fun p hp => .inl (.tail _ (.tail _ (zL _ (zL _ hp))))) (fun h F N => Ev.mod (Ev.numI F (by exact lm.nums) (by exact hp) (nl (inn := (vd, ov) :: (T ++ [])) N) h3 (by omega) (by omega)) Ev.int) (Nat.le_trans hd2 (by decide))) (fun h F => Ev.nm F rfl) (fun h F => Ev.str) (hD.mono fun p hp => zL _ hp) (xv := .tup (dSeq (lvD (kOf n0) n1 n2) (oS "data") ++ [Int.fmod n3 128])) ?_ (Nat.le_trans T1.len (by decide)) (fun q hq => (zA.mp hq).elim (hTd q) fun z => nomatch z) ?_
  ·rintro _ new ⟨b, vs, n, rfl, hm, hi⟩
   exact .tup (zL _ hm) hi
  ·rintro v new o' s5 _ hl5 K hD'
   exact wpAny_execs_nil (back _ _ _ _ K ⟨rfl, rfl, o', _, rfl, by rw [valD, if_pos hb]; exact hD'⟩)
 clear K hD hTd T hl
 intro y81 y82 y83 s4 y84 K
 obtain ⟨rfl, rfl, ov, r, rfl, hD⟩ := y84
 have hvz : (valD (kOf n0) n1 n2 n3).length <= 91 := by
  unfold valD
  split
  ·exact Nat.le_trans (dPut_len _ _ _) (Nat.le_trans (Nat.succ_le_succ T1.len) (by decide))
  ·exact Nat.le_trans T1.len (by decide)
 refine ks_assign K rfl (EvK.ofN fun o => EvN.dictOf a (fun h F N => Ev.nm F rfl) (.tail _ (.head _)) hD (Nat.le_trans hvz (by decide))) ?_
 intro y81 y82 s5 y83 hl K
 obtain ⟨fd, of, rfl, rfl, hF⟩ := y83
 have hfd : ∀ q ∈ (vd, ov) :: r, q.1 ≠ fd := fun q hq => hl q (zL _ hq) _ (.head _)
 refine ks_item K rfl (EvK.of fun h o F N => Ev.row0 F (by exact hrow) (trow F)) (fun h F => Ev.nm F rfl) (fun h F => Ev.str) hF (xv := .str (kname (kOf n0))) (by rintro _ _ ⟨⟨t, rfl⟩, rfl⟩; exact .str _ _) (Nat.le_trans hvz (by decide)) hfd ?_
 intro y81 y82 of2 s6 y83 y84 K hF
 obtain ⟨⟨tk, rfl⟩, rfl⟩ := y83
 refine ks_item (inn := (vd, ov) :: r) K rfl (EvK.of fun h o F N => Ev.nm F (by exact hwhen)) (fun h F => Ev.nm F rfl) (fun h F => Ev.str) hF (xv := .int (whenOf n3)) (by rintro _ _ ⟨rfl, rfl⟩; exact .int _ _) ?_ hfd ?_
 ·exact Nat.le_trans (dPut_len _ _ _) (Nat.le_trans (Nat.succ_le_succ hvz) (by decide))
 intro y81 y82 of3 s7 y83 y84 K hF
 obtain ⟨rfl, rfl⟩ := y83
 refine go _ ((fd, of3) :: (vd, ov) :: r) s7 vd fd K ⟨lm.nums, lm.lines, lm.want, lm.plc⟩ ⟨hrow, ⟨tw, hwhen⟩, rfl, rfl⟩ ⟨ov, r, .tail _ (.head _), hD, fun p hp => .inl (.tail _ (.tail _ hp))⟩ ⟨of3, r, .head _, hF, fun p hp => .inl (.tail _ (.tail _ hp))⟩
end
structure N2 (wl : Addr) (told : Str) (m : Str -> Option Value) : Prop where
 words : m (oS "words") = some (.ref wl)
 told : ∃ t, m (oS "told") = some (.str told t)
structure Turn2 (k : Nat) (V F : FD) (when : Int) : Prop where
 good : GoodD k V
 few : (lwords k V).length <= 99
 short : ∀ x ∈ lwords k V, x.length <= 3000
 tz : (toldS k V).length <= 99999
 small : Small when
 goodF : GoodM k F
 full : mtext k F true = fullS k V when
 told : mtext k F false = toldS k V
 kw : KwOk k F
 ok : OkMsg k (initD k F)
 goodM : GoodM k (initD k F)
 fullM : mtext k (initD k F) true = fullS k V when
 toldM : mtext k (initD k F) false = toldS k V
section
variable {w : World} {A : Around} {L : Addr} {h hZ : Heap} {m : Str -> Option Value} {inn out : List (Addr × Obj)} {s s0 : Shared} {Q : Flow -> Shared -> Prop} {E : Value -> Shared -> Prop} {na la wa vd fd : Addr} {i k : Nat} {V D : FD} {when : Int} {x : Str}
theorem Ev.full {kk : Nat} {t t2 : Tok} {pA pB pC pD pE pF pG : Pos} (G : Gl w h) (F : Fr hZ L h m) (e1 : m (oS "told") = some (.str x t)) (e2 : m (oS "when") = some (.int when t2)) (hz : x.length <= 99999) (hs : Small when) :
  Ev (model pg w) A (lawEnv L) h (.BinOp (.BinOp (.Name (oS "told") pA) .Add (.Constant (.str (oS " time=")) kk pB) pC) .Add (.Call (.Name (oS "str") pD) [.Name (oS "when") pE] [] pF) pG) (IsS (x ++ oS " time=" ++ intStr when)) :=
 Ev.sadd (Ev.sadd (Ev.nmS F e1) Ev.str (by show _ + 6 <= _; omega)) (Ev.strI G (Ev.nmI F e2) hs) (by have := intStr_len hs; rw [len_append]; show _ + 6 + _ <= _; omega)
theorem turn2 (a : At w A (lawEnv L) hZ L 20 200) (hk : k < 18) (K : KS s0 hZ L m inn out s) (lm : LM na la wa i m) (n1 : N1 k when vd fd m) (hV : DctIs w inn vd V) (hF : DctIs w inn fd D) (T2 : Turn2 k V D when)
  (go : ∀ m' inn' s' wl wvs wn xm, KS s0 hZ L m' inn' out s' -> LM na la wa i m' -> N1 k when vd fd m' -> N2 wl (toldS k V) m' -> m' (oS "message") = some (.ref xm) -> (wl, listOf (wvs : List Value).toArray wn) ∈ inn' -> StrsAre wvs (lwords k V) ->
   DctIs w inn' vd V -> DctIs w inn' fd D -> MsgIs w (inn' ++ out) xm (initD k D) -> wpAny (model pg w) A (execs (tb 15) (lawEnv L)) Q E s') :
  wpAny (model pg w) A (execs (tb 9) (lawEnv L)) Q E s := by
 conv => enter [3, 1]; whnf
 have G := fun {h} {m} (F : Fr hZ L h m) => a.gl.keeps F.keep
 obtain ⟨tr, nr, ur, trow⟩ := row_tup a hk
 obtain ⟨tw, hwhen⟩ := n1.when
 have hkn := kname_len hk
 refine ks_assign K rfl (EvK.ofN fun o => EvN.fn (a.less (D' := 1) (U' := 3) (by decide) (by decide)) (fun h F N => Ev.glob (G F) (by k_is)) (by k_is) (fun h F N => EvL.cons (Ev.nm F (by exact n1.row)) (EvL.one (Ev.nm F (by exact n1.vals)) rfl)) (fun vs hvs => by
  obtain ⟨_, _, rfl, rfl, _, rfl, rfl⟩ := hvs
  obtain ⟨ov, T, h1, h2, h3⟩ := hV
  exact law_words w _ hk (.tail _ (zL _ h1)) h2 (h3.mono fun p hp => .tail _ (zL _ hp)) T2.good)) ?_
 intro y81 y82 s1 y83 hl1 K
 obtain ⟨wl, wvs, wn, rfl, rfl, hw⟩ := y83
 have hV := hV.mono (news' := (wl, listOf wvs.toArray wn) :: inn) fun p hp => .tail _ hp
 have hF := hF.mono (news' := (wl, listOf wvs.toArray wn) :: inn) fun p hp => .tail _ hp
 have hj : JoinOk (oS " ") (kname k :: lwords k V) = true := joinOk (c := 3000) (by
  intro x hx
  rcases zC.mp hx with rfl | hx
  ·omega
  ·exact T2.short x hx) (by rw [List.length_cons]; have := T2.few; show _ * (3000 + 1) <= _; omega)
 refine ks_assign K rfl (EvK.ofN fun o => EvN.join (ws := kname k :: lwords k V) (fun h F N => Ev.str) (EvN.mono (EvN.concat (P := fun vs => StrsAre vs [kname k]) (P' := fun vs => StrsAre vs (lwords k V))
   (EvN.mono (EvN.list (fun h F N => EvL.one (Ev.row0 F (by exact n1.row) (trow F))) (by rintro _ ⟨_, rfl, _⟩; exact Nat.le_of_ble_eq_true rfl)) (by rintro _ _ ⟨d, _, ⟨_, rfl, _, rfl⟩, rfl, rfl⟩; exact ⟨d, _, 0, rfl, .head _, .cons _ _ .nil⟩))
   (fun news' hsub => EvN.mono (EvN.of fun h F N => Ev.nm F rfl) (by rintro _ _ ⟨rfl, rfl⟩; exact ⟨wl, wvs, wn, rfl, hsub _ (.tail _ (.head _)), hw⟩))
   (by intro us vs hu hv; rw [strs_len hu, strs_len hv]; have := T2.few; show 1 + _ <= _; omega)) (by rintro _ _ ⟨d, _, n, nn, rfl, rfl, us, vs, rfl, hu, hv⟩; exact ⟨d, _, n, nn, rfl, rfl, strs_append hu hv⟩)) hj) ?_
 intro y81 new s2 y82 hl2 K
 obtain ⟨tt, rfl⟩ := y82
 have hV := hV.mono (news' := new ++ (wl, listOf wvs.toArray wn) :: inn) fun p hp => zR _ hp
 have hF := hF.mono (news' := new ++ (wl, listOf wvs.toArray wn) :: inn) fun p hp => zR _ hp
 have hwl : (wl, listOf wvs.toArray wn) ∈ new ++ (wl, listOf wvs.toArray wn) :: inn := zR _ (.head _)
 obtain ⟨inn1, hin1⟩ : ∃ inn1, inn1 = new ++ ([(wl, listOf wvs.toArray wn)] ++ inn) := ⟨_, rfl⟩
 rw [<- hin1] at K
 replace hV : DctIs w inn1 vd V := hin1 ▸ hV
 replace hF : DctIs w inn1 fd D := hin1 ▸ hF
 replace hwl : (wl, listOf wvs.toArray wn) ∈ inn1 := hin1 ▸ hwl
 clear hin1 hl1 hl2
 have eF : ∀ {pA pB pC pD pE pF pG : Pos} {kk : Nat} {m' : Str -> Option Value} {news' : List (Addr × Obj)}, m' (oS "told") = some (.str (toldS k V) tt) -> m' (oS "when") = some (.int when tw) -> EvK (model pg w) A (lawEnv L) hZ L m' news' (.BinOp (.BinOp (.Name (oS "told") pA) .Add (.Constant (.str (oS " time=")) kk pB) pC) .Add (.Call (.Name (oS "str") pD) [.Name (oS "when") pE] [] pF) pG) (fun v _ => IsS (fullS k V when) v) :=
  fun e1 e2 => EvK.mono (EvK.of fun h o F N => Ev.full (G F) F e1 e2 T2.tz T2.small) fun v new hv => hv.1
 have eT : ∀ {p : Pos} {m' : Str -> Option Value} {news' : List (Addr × Obj)}, m' (oS "told") = some (.str (toldS k V) tt) -> EvK (model pg w) A (lawEnv L) hZ L m' news' (.Name (oS "told") p) (fun v _ => IsS (toldS k V) v) :=
  fun e1 => EvK.mono (EvK.of fun h o F N => Ev.nmS F e1) fun v new hv => hv.1
 have hns : ∀ {n : Str}, (n != n) = false := by intro n; simp
 obtain ⟨fo, FT, hf1, hf2, hf3⟩ := hF
 refine ks_skip K (EvTK.or (EvTK.neS (x := fullS k V when) (EvK.mono (EvK.fn (R := IsS (fullS k V when)) (a.less (D' := 1) (U' := 3) (by decide) (by decide)) (fun h F => Ev.glob (G F) (by k_is)) (by k_is) (fun h o F N => EvL.one (Ev.nm F (by exact n1.flds))) (fun vs hvs => by
   obtain ⟨_, rfl, rfl⟩ := hvs
   rw [<- T2.full]
   exact msg2str_1 w _ hk (zL _ hf1) hf2 (hf3.mono fun p hp => zL _ hp) T2.goodF K.ne)) fun v new hv => hv.1) (fun news' hsub => eF rfl (by exact hwhen)))
  (fun _ => EvTK.neS (x := toldS k V) (EvK.mono (EvK.fnKw (R := IsS (toldS k V)) (RK := (· = .bool false)) (a.less (D' := 1) (U' := 3) (by decide) (by decide)) (fun h F => Ev.glob (G F) (by k_is)) (by k_is) (fun h o F N => EvL.one (Ev.nm F (by exact n1.flds))) (fun h F => Ev.bool) (fun vs k' hvs hk' => by
   obtain ⟨_, rfl, rfl⟩ := hvs
   subst hk'
   rw [<- T2.told]
   exact msg2str_2 w _ hk (zL _ hf1) hf2 (hf3.mono fun p hp => zL _ hp) T2.goodF K.ne false)) fun v new hv => hv.1) (fun news' hsub => eT rfl))) (by rw [hns, hns]; rfl) ?_
 intro s3 K
 refine ks_assign K rfl (EvK.ofT (RN := fun r new => ∃ x, r = .ref x /\ MsgIs w (new ++ (inn1 ++ out)) x (initD k D)) fun o hto => EvN.cm (RL := fun vs => vs = [.ref fd]) (fa := 309) (pa := 311) (nm := oS "from_dict") (a.less (D' := 7) (U' := 19) (by decide) (by decide)) (fun h F N => Ev.glob (G F) (by k_is)) (fun q f h F N => EvL.mono (EvL.one (Ev.nm F (by exact n1.flds))) fun vs hvs => by obtain ⟨_, rfl, rfl⟩ := hvs; rfl) (fun q vs hvs => ?_) (by k_is) (by k_is) (by k_is) (by k_is) (by k_is) (by k_is)) ?_
 ·subst hvs
  intro A' env' hZ' L' m' s' R' a' F' N' hret
  refine from_dict_ok w _ hk (d := fd) (D := D) ⟨fo, FT, .tail _ (.tail _ (zL _ hf1)), hf2, hf3.mono fun p hp => .tail _ (.tail _ (zL _ hp))⟩ T2.kw T2.ok A' env' hZ' L' m' s' R' a' F' N' fun r led h2 tk2 hp F2 N2 => ?_
  obtain ⟨new, rfl, ⟨x, rfl, hm⟩, hl⟩ := hp
  exact hret _ _ h2 tk2 ⟨new, rfl, ⟨x, rfl, hm.drop.dropT hto⟩, hl⟩ F2 N2
 intro y81 new3 s4 y82 hl3 K
 obtain ⟨xm, rfl, hM⟩ := y82
 rw [<- List.append_assoc] at hM
 refine ks_skip K (EvTK.neS (x := fullS k V when) (EvK.mono (EvK.fn (R := IsS (fullS k V when)) (a.less (D' := 2) (U' := 6) (by decide) (by decide)) (fun h F => Ev.glob (G F) (by k_is)) (by k_is) (fun h o F N => EvL.one (Ev.nm F rfl)) (fun vs hvs => by
   obtain ⟨_, rfl, rfl⟩ := hvs
   rw [<- T2.fullM]
   exact format_1 w _ hk hM T2.goodM K.ne)) fun v new hv => hv.1) (fun news' hsub => eF rfl (by exact hwhen))) (hns (n := fullS k V when)) ?_
 intro s5 K
 refine ks_skip K (EvTK.neS (x := toldS k V) (EvK.mono (EvK.fnKw (R := IsS (toldS k V)) (RK := (· = .bool false)) (a.less (D' := 2) (U' := 6) (by decide) (by decide)) (fun h F => Ev.glob (G F) (by k_is)) (by k_is) (fun h o F N => EvL.one (Ev.nm F rfl)) (fun h F => Ev.bool) (fun vs k' hvs hk' => by
   obtain ⟨_, rfl, rfl⟩ := hvs
   subst hk'
   rw [<- T2.toldM]
   exact format_2 w _ hk hM T2.goodM K.ne false)) fun v new hv => hv.1) (fun news' hsub => eT rfl)) (hns (n := toldS k V)) ?_
 intro s6 K
 exact go _ _ s6 wl wvs wn xm K ⟨lm.nums, lm.lines, lm.want, lm.plc⟩ ⟨n1.row, n1.when, n1.vals, n1.flds⟩ ⟨rfl, tt, rfl⟩ rfl (zR _ hwl) hw (hV.mono fun p hp => zR _ hp) ⟨fo, FT, zR _ hf1, hf2, hf3.mono fun p hp => zR _ hp⟩ hM
end
structure Turn3 (k : Nat) (V D S : FD) (when : Int) : Prop where
 tz : (toldS k V).length <= 99999
 small : Small when
 len : D.length <= 95
 data : isSx k = true -> dAt V (oS "data") = some (.tup (dSeq V (oS "data"))) /\ (dSeq V (oS "data")).length <= 99
 txt : TextOk k (fullS k V when) S
 same : Mine.dEq S (shownD k V D) = true
 kw : KwOk k S
 ok : OkMsg k (initD k S)
 msg : Mine.dEq (initD k S) (initD k D) = true
section
variable {w : World} {A : Around} {L : Addr} {h hZ : Heap} {m : Str -> Option Value} {inn out : List (Addr × Obj)} {s s0 : Shared} {Q : Flow -> Shared -> Prop} {E : Value -> Shared -> Prop} {na la wa vd fd wl xm : Addr} {i k : Nat} {V D S : FD} {when : Int} {x : Str}
theorem turn3 (a : At w A (lawEnv L) hZ L 20 200) (hk : k < 18) (K : KS s0 hZ L m inn out s) (lm : LM na la wa i m) (n1 : N1 k when vd fd m) (n2 : N2 wl (toldS k V) m) (hx : m (oS "message") = some (.ref xm)) (hV : DctIs w inn vd V) (hF : DctIs w inn fd D) (hM : MsgIs w (inn ++ out) xm (initD k D)) (T3 : Turn3 k V D S when)
  (go : ∀ m' new s' sd, KS s0 hZ L m' (new ++ inn) out s' -> LM na la wa i m' -> N1 k when vd fd m' -> N2 wl (toldS k V) m' -> m' (oS "shown") = some (.ref sd) -> DctIs w (new ++ inn) sd (shownD k V D) -> wpAny (model pg w) A (execs (tb 19) (lawEnv L)) Q E s') :
  wpAny (model pg w) A (execs (tb 15) (lawEnv L)) Q E s := by
 conv => enter [3, 1]; whnf
 have G := fun {h} {m} (F : Fr hZ L h m) => a.gl.keeps F.keep
 obtain ⟨tr, nr, ur, trow⟩ := row_tup a hk
 obtain ⟨tw, hwhen⟩ := n1.when
 obtain ⟨tt, htold⟩ := n2.told
 obtain ⟨fo, FT, hf1, hf2, hf3⟩ := hF
 obtain ⟨vo, VT, hv1, hv2, hv3⟩ := hV
 refine ks_assign K rfl (EvK.ofN fun o => EvN.dictOf a (fun h F N => Ev.nm F (by exact n1.flds)) (.tail _ (zL _ hf1)) hf2 (Nat.le_trans T3.len (by decide))) ?_
 intro y81 y82 s1 y83 hl K
 obtain ⟨sd, so, rfl, rfl, hS⟩ := y83
 have hsd : ∀ q ∈ inn, q.1 ≠ sd := fun q hq => hl q (zL _ hq) _ (.head _)
 refine ks_ifJ (P := fun m' inn' out' => m' = (mput m (oS "shown") (.ref sd)) /\ out = out' /\ ∃ o new T, inn' = (sd, o) :: (new ++ inn) /\ DictIs pg w (new ++ FT) sd o (shownD k V D)) K
  (EvTK.of fun h o F N => EvT.eqS (Ev.row0 F (by exact n1.row) (trow F)) Ev.str) (fun hb s4 Q' K back => ?_) (fun hb s4 Q' K back => wpAny_execs_nil (back _ _ _ _ K ⟨rfl, rfl, so, [], ([] : List (Addr × Obj)), rfl, by rw [shownD, if_neg (ne_true_of_eq_false hb)]; exact hS⟩)) ?_
 ·obtain ⟨hd1, hd2⟩ := T3.data hb
  refine ks_item (T := FT) K rfl (EvK.ofN fun o => EvN.listV a (fun h F N => Ev.dItem N (.tail _ (.tail _ (zL _ hv1))) (Ev.nm F (by exact n1.vals)) Ev.str hv2 hd1) (hv3.mono fun p hp => .tail _ (.tail _ (zL _ hp))) hd2) (fun h F => Ev.nm F rfl) (fun h F => Ev.str) hS (xv := .lst (dSeq V (oS "data"))) ?_ (Nat.le_trans T3.len (by decide)) hsd ?_
  ·rintro _ new ⟨b, vs, n, rfl, rfl, hi⟩
   exact .lst (.head _) hi
  ·rintro v new o' s5 _ hl5 K hD'
   exact wpAny_execs_nil (back _ _ _ _ K ⟨rfl, rfl, o', new, ([] : List (Addr × Obj)), rfl, by rw [shownD, if_pos hb]; exact hD'⟩)
 clear K hS hl so
 intro y81 y82 y83 s4 y84 K
 obtain ⟨rfl, rfl, so, new0, _, rfl, hS⟩ := y84
 have hsub : ∀ p ∈ inn ++ out, p ∈ (sd, so) :: (new0 ++ inn) ++ out := fun p hp => .tail _ (show p ∈ (new0 ++ inn) ++ out from (List.append_assoc new0 inn out).symm ▸ zR new0 hp)
 have hSd : DctIs w ((sd, so) :: (new0 ++ inn)) sd (shownD k V D) := ⟨so, new0 ++ FT, .head _, hS, fun p hp => (zA.mp hp).elim (fun z => .inl (.tail _ (zL _ z))) fun z => (hf3 p z).imp (fun y => .tail _ (zR _ y)) id⟩
 have eA : ∀ {h : Heap} {m' : Str -> Option Value} {pA pB pC pD pE pF pG : Pos} {kk : Nat}, Fr hZ L h m' -> m' (oS "told") = some (.str (toldS k V) tt) -> m' (oS "when") = some (.int when tw) -> EvL (model pg w) A (lawEnv L) h [.BinOp (.BinOp (.Name (oS "told") pA) .Add (.Constant (.str (oS " time=")) kk pB) pC) .Add (.Call (.Name (oS "str") pD) [.Name (oS "when") pE] [] pF) pG] (fun vs => ∃ v, vs = [v] /\ IsS (fullS k V when) v) :=
  fun F e1 e2 => EvL.one (Ev.full (G F) F e1 e2 T3.tz T3.small)
 refine ks_skip K (EvTK.dNe (Dx := S) (Dy := shownD k V D) (a.less (D' := 20) (U' := 100 + 100) (by decide) (by decide)) (EvK.mono (EvK.ofN fun o => EvN.fn (a.less (D' := 2) (U' := 6) (by decide) (by decide)) (fun h F N => Ev.glob (G F) (by k_is)) (by k_is) (fun h F N => eA F (by exact htold) (by exact hwhen)) (fun vs hvs => by
   obtain ⟨_, rfl, t, rfl⟩ := hvs
   exact str2msg_txt w _ hk T3.txt)) (fun v new hv => by obtain ⟨b, rfl, hb⟩ := hv; exact ⟨b, rfl, hb.mono fun p hp => zL _ hp⟩))
  (fun news' hsub => EvK.mono (EvK.of fun h o F N => Ev.nm F rfl) (fun v new hv => by obtain ⟨rfl, rfl⟩ := hv; exact ⟨sd, rfl, hSd.mono fun p hp => hsub p (zL _ hp)⟩))) (by rw [T3.same]; rfl) ?_
 intro s5 K
 refine ks_skip K (EvTK.not (EvTK.msgEq (Dx := initD k S) (Dy := initD k D) (a.less (D' := 1 + 19) (U' := 104 + 96) (by decide) (by decide)) (EvK.ofT (RN := fun r new => ∃ x, r = .ref x /\ MsgIs w (new ++ (((sd, so) :: (new0 ++ inn)) ++ out)) x (initD k S)) fun o hto => EvN.mono (EvN.fn (a.less (D' := 8) (U' := 22) (by decide) (by decide)) (fun h F N => Ev.glob (G F) (by k_is)) (by k_is) (fun h F N => eA F (by exact htold) (by exact hwhen)) (fun vs hvs => by
   obtain ⟨_, rfl, t, rfl⟩ := hvs
   exact parse_string_ok w _ hk T3.txt T3.kw T3.ok)) (fun r new hr => by obtain ⟨x, rfl, hm⟩ := hr; exact ⟨x, rfl, hm.dropT hto⟩))
  (fun news' hsub' => EvK.mono (EvK.of fun h o F N => Ev.nm F (by exact hx)) (fun v new hv => by obtain ⟨rfl, rfl⟩ := hv; exact ⟨xm, rfl, hM.mono fun p hp => hsub' p (hsub p hp)⟩)))) (by rw [T3.msg]; rfl) ?_
 intro s6 K
 exact go _ ((sd, so) :: new0) s6 sd K ⟨lm.nums, lm.lines, lm.want, lm.plc⟩ ⟨n1.row, n1.when, n1.vals, n1.flds⟩ ⟨n2.words, n2.told⟩ rfl hSd
end
noncomputable def readElse : List Stmt := (stP ((turnBody[22]?).getD (.Pass default))).2.1
noncomputable def headOf (x : Str) : Str := (Txt.split x (oS "#")).headD default
structure NE (k : Nat) (told text : Str) (sd : Addr) (m : Str -> Option Value) : Prop where
 row : m (oS "row") = some (.ref (444 + 2 * k))
 told : ∃ t, m (oS "told") = some (.str told t)
 text : ∃ t, m (oS "text") = some (.str text t)
 shown : m (oS "shown") = some (.ref sd)
structure Turn4 (k : Nat) (SH : FD) (rs : List Str) (text : Str) (S : FD) : Prop where
 few : rs.length <= 20
 dlen : (ldefaults k).length <= 20
 short : ∀ x ∈ rs, x.length <= 99999
 known : ∀ x ∈ rs, ∃ v, dAt SH (nameIn x) = some v
 tz : text.length <= 999999
 txt : TextOk k (headOf text) S
 test : Mine.dEq S (answerD k SH rs) = true ∨ (isSx k = true /\ dAt (answerD k SH rs) (oS "data") = some (.lst []))
 kw : KwOk k S
 ok : OkMsg k (initD k S)
 dok : DictOk (initD k S)
 same : Mine.dEq (dictD (initD k S)) (answerD k SH rs) = true
noncomputable def OutL (la wa : Addr) (ls : List Value) (nl : Nat) (ws : List Value) (nw : Nat) (r : List (Addr × Obj)) : List (Addr × Obj) := (la, listOf ls.toArray nl) :: (wa, listOf ws.toArray nw) :: r
structure OutOk (la wa : Addr) (ls ws : List Value) (r : List (Addr × Obj)) : Prop where
 ne : la ≠ wa
 r1 : ∀ q ∈ r, q.1 ≠ la
 r2 : ∀ q ∈ r, q.1 ≠ wa
 z1 : ls.length <= 999
 z2 : ws.length <= 999
theorem answer_len (SH D : FD) (l : List Str) : (l.foldl (putW SH) D).length <= D.length + l.length := by
 induction l generalizing D with
 | nil => exact Nat.le_refl _
 | cons x l ih =>
  have h1 := ih (putW SH D x)
  have h2 := dPut_len D (nameIn x) ((dAt SH (nameIn x)).getD (.int 0))
  simp only [List.foldl_cons, List.length_cons]
  unfold putW at h1 ⊢
  omega
section
variable {w : World} {A : Around} {L : Addr} {h hZ : Heap} {m : Str -> Option Value} {inn out r : List (Addr × Obj)} {s s0 : Shared} {Q : Flow -> Shared -> Prop} {E : Value -> Shared -> Prop} {na la wa sd b : Addr} {i k nl nw rn : Nat} {SH S : FD} {told text : Str} {ls ws rvs : List Value} {rs : List Str}
theorem ks_appendL (ho : OutOk la wa ls ws r) (v : Value) : Upd la (listOf ls.toArray nl) (listOf (ls.toArray.push v) (nl + 1)) (OutL la wa ls nl ws nw r) (OutL la wa (ls ++ [v]) (nl + 1) ws nw r) := by
 unfold OutL
 rw [List.push_toArray]
 exact .head fun q hq => (zC.mp hq).elim (fun e => by rw [e]; exact ho.ne.symm) (ho.r1 q)
theorem ks_appendW (ho : OutOk la wa ls ws r) (v : Value) : Upd wa (listOf ws.toArray nw) (listOf (ws.toArray.push v) (nw + 1)) (OutL la wa ls nl ws nw r) (OutL la wa ls nl (ws ++ [v]) (nw + 1) r) := by
 unfold OutL
 rw [List.push_toArray]
 exact .tail ho.ne (.head ho.r2)
theorem out_keys {ls' ws' : List Value} {nl' nw' : Nat} : ∀ q ∈ OutL la wa ls' nl' ws' nw' r, ∃ p ∈ OutL la wa ls nl ws nw r, p.1 = q.1 := fun q hq => by
 rcases zC.mp hq with rfl | hq
 ·exact ⟨_, .head _, rfl⟩
 ·rcases zC.mp hq with rfl | hq
  ·exact ⟨_, .tail _ (.head _), rfl⟩
  ·exact ⟨q, .tail _ (.tail _ hq), rfl⟩
theorem turnElse (a : At w A (lawEnv L) hZ L 20 200) (hk : k < 18) (K : KS s0 hZ L m inn (OutL la wa ls nl ws nw r) s) (lm : LM na la wa i m) (ne : NE k told text sd m) (hrd : m (oS "read") = some (.ref b)) (hb : (b, listOf rvs.toArray rn) ∈ inn) (hrs : StrsAre rvs rs) (hS : DctIs w inn sd SH) (ho : OutOk la wa ls ws r) (T4 : Turn4 k SH rs text S) (hE : PassesOwn (model pg w) A (lawEnv L) E)
  (back : ∀ m' inn' s' d, KS s0 hZ L m' inn' (OutL la wa ls nl (ws ++ [.ref d]) (nw + 1) r) s' -> LM na la wa i m' -> (∃ t, m' (oS "told") = some (.str told t)) -> DctIs w inn' d (answerD k SH rs) -> Q .next s') : wpAny (model pg w) A (execs readElse (lawEnv L)) Q E s := by
 conv => enter [3, 1]; whnf
 have G := fun {h} {m} (F : Fr hZ L h m) => a.gl.keeps F.keep
 obtain ⟨tr, nr, ur, trow⟩ := row_tup a hk
 obtain ⟨so, ST, hs1, hs2, hs3⟩ := hS
 refine ks_assign K rfl (EvK.ofN fun o => EvN.fn (a.less (D' := 1) (U' := 3) (by decide) (by decide)) (fun h F N => Ev.glob (G F) (by k_is)) (by k_is) (fun h F N => EvL.one (Ev.nm F (by exact ne.row))) (fun vs hvs => by
  obtain ⟨_, rfl, rfl⟩ := hvs
  exact law_defaults w _ hk)) ?_
 intro y81 y82 s1 y83 hl K
 obtain ⟨ad, oa, T, rfl, rfl, hD⟩ := y83
 have hadi : ∀ q ∈ inn ++ OutL la wa ls nl ws nw r, q.1 ≠ ad := fun q hq => hl q hq _ (.head _)
 obtain ⟨T, K, hD, hTd⟩ := ks_dict K hD
 obtain ⟨o, F, N, ht, hbr⟩ := K.ex
 have had : ∀ q ∈ (227, o) :: ((T ++ inn) ++ OutL la wa ls nl ws nw r), q.1 ≠ ad := fun q hq => by
  rcases zC.mp hq with rfl | hq
  ·exact fun e => K.ne (ad, oa) (.head _) e.symm
  ·rw [List.append_assoc] at hq
   exact (zA.mp hq).elim (hTd q) (hadi q)
 have hbI : (b, listOf rvs.toArray rn) ∈ (227, o) :: ((T ++ inn) ++ OutL la wa ls nl ws nw r) := .tail _ (zL _ (zR _ hb))
 refine st_for (σ := Obj) false (Ev.nm F (by exact hrd)) a.hh (fun c => [(ad, c)]) (fun i c m' g => AllBare g /\ DictIs pg w (T ++ ST) ad c ((rs.take i).foldl (putW SH) (ldefaults k)) /\ m' (oS "answer") = some (.ref ad) /\ NE k told text sd m' /\ LM na la wa _ m') oa [ad] ((227, o) :: ((T ++ inn) ++ OutL la wa ls nl ws nw r)) rfl rfl F (news_swap N)
  (fun q hq e => had q hq (zS.mp e)) (fun b hb => by rw [zS.mp hb]; exact ⟨_, .head _⟩) (.inr hbI) ⟨hbr, hD.mono fun p hp => zL _ hp, rfl, ⟨ne.row, ne.told, ne.text, ne.shown⟩, ⟨lm.nums, lm.lines, lm.want, lm.plc⟩⟩ ?_ ?_ ?_ hE
 ·intro i c m' g y81 p hp
  obtain ⟨_, hd, _⟩ := y81
  rw [zS.mp hp]
  exact hd.plain
 ·clear K F N hD hbr ht
  intro j c m2 h gs tk rest v hv y81 hr hs F N
  obtain ⟨hbr, hd, e1, ne2, lm2⟩ := y81
  obtain ⟨x, tx, rfl, hx⟩ := strs_get hrs hv
  have hxm := List.mem_of_getElem? hx
  have hxl := T4.short x hxm
  obtain ⟨y, hy⟩ := T4.known x hxm
  have hsI : (sd, so) ∈ rest := hs _ (.tail _ (zL _ (zR _ hs1)))
  have hrn : ∀ q ∈ rest, q.1 ≠ ad := fun q hq e => hr q hq (zS.mpr e)
  refine st_assignN rfl F N (EvN.item (j := 0) (P := fun vs => StrsAre vs (Txt.split x (oS "="))) (R := IsS (nameIn x))
    (EvN.mono (EvN.split1 (EvN.mono (EvN.of fun h F N => Ev.nmS F rfl) fun v new h => h.1) (fun h F => Ev.str) (by decide +kernel) (Nat.le_trans hxl (by decide))) (by rintro _ _ ⟨d, us, n, nn, rfl, rfl, hu⟩; exact ⟨d, us, n, rfl, .head _, hu⟩))
    (fun h F => Ev.int) (fun vs hu => strs_at hu (nameIn_at _))) ?_
  intro y81 new h1 tk1 y82 hl1 F1 N1
  obtain ⟨tn, rfl⟩ := y82
  have hnd : ∀ q ∈ new, q.1 ≠ ad := fun q hq => Ne.symm (hl1 (ad, c) (.head _) q hq)
  have hlen : ((rs.take j).foldl (putW SH) (ldefaults k)).length <= 99 := by
   have h1 := answer_len SH (ldefaults k) (rs.take j)
   have h2 := T4.dlen
   have h3 := T4.few
   rw [List.length_take] at h1
   omega
  refine st_item F1 N1 (Ev.dItem N1 (zR _ (.tail _ hsI)) (Ev.nm F1 (by exact ne2.shown)) (Ev.nmS F1 rfl) hs2 hy) (Ev.nm F1 (by exact e1)) (Ev.nmS F1 rfl) (updF_append (.head hrn) hnd) hd (fun v hv => hv.mono fun p hp => zR _ hp) hlen ?_
  rintro h2 c2 tk2 F2 N2 hd2
  refine st_nil ⟨c2, _, h2, gs, tk2, new ++ rest, rfl, F2, fun p hp => N2 p ?_, fun q hq => zR _ hq, fun q hq e => ?_, hbr, ?_, e1, ⟨ne2.row, ne2.told, ne2.text, ne2.shown⟩, ⟨lm2.nums, lm2.lines, lm2.want, lm2.plc⟩⟩
  ·rcases zA.mp hp with hp | hp
   ·rw [zS.mp hp]; exact zR _ (.head _)
   ·rcases zA.mp hp with hp | hp
    ·exact zL _ hp
    ·exact zR _ (.tail _ hp)
  ·rcases zA.mp hq with hq | hq
   ·exact hnd q hq (zS.mp e)
   ·exact hrn q hq (zS.mp e)
  ·have e : rs.take (j + 1) = rs.take j ++ [x] := by rw [List.take_add_one, hx]; rfl
   rw [e, List.foldl_append]
   show DictIs pg w _ ad c2 (putW SH _ x)
   rw [putW, hy]
   exact hd2
 intro c m2 h gs tk y81 F2 N2
 obtain ⟨hbr, hd, e1, ne2, lm2⟩ := y81
 rw [strs_len hrs, List.take_length] at hd
 have K := K.to (inn' := (ad, c) :: (T ++ inn)) (t := tk) F2 (news_swap N2) ht hbr (fun q hq => (zC.mp hq).elim (fun e => by rw [e]; exact fun z => K.ne (ad, oa) (.head _) z) fun z => K.ne q (.tail _ z)) fun q hq x hx => (zC.mp hx).elim (fun e => by rw [e]; exact K.ap q hq (ad, oa) (.head _)) fun z => K.ap q hq x (.tail _ z)
 have hA : DctIs w ((ad, c) :: (T ++ inn)) ad (answerD k SH rs) := ⟨c, T ++ ST, .head _, hd, fun p hp => (zA.mp hp).elim (fun z => .inl (.tail _ (zL _ z))) fun z => (hs3 p z).imp (fun y => .tail _ (zR _ y)) id⟩
 clear F N hD hs2 hs3 hs1 hbr ht F2 N2 had hbI
 generalize (ad, c) :: (T ++ inn) = inn2 at K hA
 refine ks_append K (fun h F => Ev.nm F (by exact lm2.want)) (EvK.of fun h o F N => Ev.nm F (by exact e1)) (fun v => ks_appendW ho v) (.tail _ (.head _)) (fun v => out_keys) (by rw [List.size_toArray]; exact Nat.le_trans ho.z2 (by decide)) ?_
 intro y81 y82 s2 y83 y84 K
 obtain ⟨rfl, rfl⟩ := y83
 have K : KS s0 hZ L m2 inn2 (OutL la wa ls nl (ws ++ [.ref ad]) (nw + 1) r) s2 := K
 obtain ⟨tx, htx⟩ := ne2.text
 have hhl : (headOf text).length <= 999999 := Nat.le_trans (part_short (List.mem_of_getElem? (head_at text))) T4.tz
 refine ks_skip (b := !Mine.dEq S (answerD k SH rs) && !(isSx k && true)) K (EvTK.and (EvTK.dNe (Dx := S) (Dy := answerD k SH rs) (a.less (D' := 20) (U' := 100 + 100) (by decide) (by decide)) (EvK.ofN fun o => EvN.fnN (RP := fun _ _ r new => ∃ b, r = .ref b /\ DctIs w new b S) (a.less (D' := 2) (U' := 6) (by decide) (by decide)) (fun h F N => Ev.glob (G F) (by k_is)) (by k_is) (EvLN.one (RN := fun v new => IsS (headOf text) v) (EvN.item (j := 0) (P := fun vs => StrsAre vs (Txt.split text (oS "#"))) (R := IsS (headOf text))
    (EvN.mono (EvN.split1 (EvN.mono (EvN.of fun h F N => Ev.nmS F (by exact htx)) fun v new h => h.1) (fun h F => Ev.str) (by decide +kernel) T4.tz) (by rintro _ _ ⟨d, us, n, nn, rfl, rfl, hu⟩; exact ⟨d, us, n, rfl, .head _, hu⟩))
    (fun h F => Ev.int) (fun vs hu => strs_at hu (head_at _)))) (fun vs new hvs => by
   obtain ⟨_, rfl, t, rfl⟩ := hvs
   exact str2msg_txt w _ hk T4.txt) (fun vs new r new' hvs hp => by obtain ⟨b, rfl, hb⟩ := hp; exact ⟨b, rfl, hb.mono fun p hp => zL _ (zL _ hp)⟩))
  (fun news' hsub => EvK.mono (EvK.of fun h o F N => Ev.nm F (by exact e1)) (fun v new hv => by obtain ⟨rfl, rfl⟩ := hv; exact ⟨ad, rfl, hA.mono fun p hp => hsub p (zL _ hp)⟩)))
  (fun hne => EvTK.not (EvTK.and (EvTK.of fun h o F N => EvT.eqS (Ev.row0 F (by exact ne2.row) (trow F)) Ev.str) fun hsx => ?_))) ?_ ?_
 ·have hd : dAt (answerD k SH rs) (oS "data") = some (.lst []) := (T4.test.resolve_left fun e => by rw [e] at hne; cases hne).2
  obtain ⟨oa2, TA, ha1, ha2, ha3⟩ := id hA
  refine EvTK.cmp (RNA := fun v new => VIn TA v (.lst []) /\ new = []) (RNB := fun v led => ∃ b, v = .ref b /\ (b, listOf ([] : List Value).toArray 0) ∈ led) (EvK.of fun h o F N => Ev.dItem N (.tail _ (zL _ ha1)) (Ev.nm F (by exact e1)) Ev.str ha2 hd)
   (fun news' hsub => EvK.mono (EvK.ofN fun o => EvN.list (fun h F N => EvL.nil) (by rintro _ rfl; decide)) (by rintro _ _ ⟨b, _, rfl, rfl, rfl⟩; exact ⟨b, rfl, .head _⟩)) (fun s Q E u v newA led o hu hv hsub F N ht hbr hq => ?_)
  obtain ⟨b2, rfl, hb2⟩ := hv
  obtain ⟨hu, rfl⟩ := hu
  have N' : News hZ L s.heap led := fun p hp => N p (.tail _ hp)
  cases hu with
  | @lst l vs n _ hl hi =>
   cases hi
   have hl' := (ha3.mono fun p hp => hsub p (zR [] (zL _ hp))).get a F N' _ hl
   refine cmp_ofEq (SeqAt.RcAt.lists (e := fun _ => true) ⟨_, hl', rfl, n, rfl⟩ (N'.isList hb2) rfl (by have := a.un; omega) (fun j h1 => absurd h1 (Nat.not_lt_zero _)) _ _ _ _ (hq s.heap s.toks F fun p hp => N p ?_))
   rcases zC.mp hp with rfl | hp
   ·exact .head _
   ·exact .tail _ (hsub p (zR [] hp))
 ·rcases T4.test with e | ⟨e, _⟩
  ·rw [e]; rfl
  ·rw [e]; exact Bool.and_false _
 intro s3 K
 refine ks_skip K (EvTK.not (EvTK.dEq (Dx := dictD (initD k S)) (Dy := answerD k SH rs) (a.less (D' := 20) (U' := 100 + 100) (by decide) (by decide)) (EvK.ofT (RN := fun v new => ∃ x, v = .ref x /\ DctIs w (new ++ (inn2 ++ OutL la wa ls nl (ws ++ [.ref ad]) (nw + 1) r)) x (dictD (initD k S))) fun o hto => EvN.mono (EvN.dictM (Dx := initD k S) (D' := 19) (U' := 197) a (EvN.cmN (RN := fun v new => ∃ x, v = .ref x /\ MsgIs w (new ++ (227, o) :: (inn2 ++ OutL la wa ls nl (ws ++ [.ref ad]) (nw + 1) r)) x (initD k S)) (fa := 391) (pa := 393) (nm := oS "from_str") (a.less (D' := 7) (U' := 19) (by decide) (by decide)) (fun h F N => Ev.glob (G F) (by k_is)) (fun q f => (EvLN.one (RN := fun v new => IsS (headOf text) v) (EvN.item (j := 0) (P := fun vs => StrsAre vs (Txt.split text (oS "#"))) (R := IsS (headOf text))
    (EvN.mono (EvN.split1 (EvN.mono (EvN.of fun h F N => Ev.nmS F (by exact htx)) fun v new h => h.1) (fun h F => Ev.str) (by decide +kernel) T4.tz) (by rintro _ _ ⟨d, us, n, nn, rfl, rfl, hu⟩; exact ⟨d, us, n, rfl, .head _, hu⟩))
    (fun h F => Ev.int) (fun vs hu => strs_at hu (head_at _))))) (fun q vs new hvs => ?_) (by k_is) (by k_is) (by k_is) (by k_is) (by k_is) (by k_is)) T4.dok) (by rintro v new ⟨d, rfl, hd⟩; exact ⟨d, rfl, hd.dropT hto⟩))
  (fun news' hsub => EvK.mono (EvK.of fun h o F N => Ev.nm F (by exact e1)) (fun v new hv => by obtain ⟨rfl, rfl⟩ := hv; exact ⟨ad, rfl, hA.mono fun p hp => hsub p (zL _ hp)⟩)))) (by rw [T4.same]; rfl) ?_
 ·obtain ⟨_, rfl, t, rfl⟩ := hvs
  intro A' env' hZ' L' m' s' R' a' F' N' hret
  refine from_str_ok w _ hk T4.txt T4.kw T4.ok A' env' hZ' L' m' s' R' a' F' N' fun r led h2 tk2 hp F2 N2 => ?_
  obtain ⟨new', rfl, ⟨x, rfl, hm⟩, hl⟩ := hp
  rw [<- List.append_assoc] at hm
  exact hret _ _ h2 tk2 ⟨new', rfl, ⟨x, rfl, hm.drop⟩, hl⟩ F2 N2
 intro s4 K
 exact wpAny_execs_nil (back _ _ s4 ad K ⟨lm2.nums, lm2.lines, lm2.want, lm2.plc⟩ ne2.told hA)
end
noncomputable def styleOf (n0 : Int) : Int := Int.fmod (Int.fdiv n0 18) 8
noncomputable def threeOf (told : Str) : List Str := [oS "", oS "   ", oS "# " ++ told]
noncomputable def quietOf (n2 : Int) (told : Str) : List Str := if (Int.fmod n2 3 == 0) = true then [(threeOf told).getD (Int.fmod (Int.fdiv n2 3) 3).toNat Str.empty] else []
noncomputable def WantV (w : World) (T : List (Addr × Obj)) (v : Value) : Option FD -> Prop
 | none => v = .none
 | some D => ∃ d, v = .ref d /\ DctIs w T d D
theorem WantV.mono {w : World} {T T' : List (Addr × Obj)} {v : Value} {o : Option FD} (h : WantV w T v o) (hs : ∀ p ∈ T, p ∈ T') : WantV w T' v o := by
 cases o with
 | none => exact h
 | some D => obtain ⟨d, h1, h2⟩ := h; exact ⟨d, h1, h2.mono hs⟩
theorem Four.mono {na : Addr} {out out' : List (Addr × Obj)} {i : Nat} {n0 n1 n2 n3 : Int} (h : Four na out i n0 n1 n2 n3) (hs : ∀ p ∈ out, p ∈ out') : Four na out' i n0 n1 n2 n3 := by
 obtain ⟨a, b, c, d, e, f, g, h⟩ := h.ex
 exact ⟨a, b, c, d, e, f, hs _ g, h⟩
structure Turn5 (k : Nat) (V SH : FD) (when style : Int) : Prop where
 few : (lwords k V).length <= 99
 short : ∀ x ∈ lwords k V, x.length <= 3000
 small : Small when
 tz : (toldS k V).length <= 99999
 read : ∀ rs, (lline k (lwords k V) when style).2 = some rs -> ∃ S, Turn4 k SH rs (lline k (lwords k V) when style).1 S
section
variable {w : World} {A : Around} {L : Addr} {h hZ : Heap} {m : Str -> Option Value} {inn out r : List (Addr × Obj)} {s s0 : Shared} {Q : Flow -> Shared -> Prop} {E : Value -> Shared -> Prop} {na la wa vd fd wl sd : Addr} {i k nl nw wn : Nat} {V SH : FD} {when n0 n1 n2 n3 : Int} {ls ws wvs : List Value} {xs : List Str}
theorem turn5 (a : At w A (lawEnv L) hZ L 20 200) (hE : PassesOwn (model pg w) A (lawEnv L) E) (hk : k < 18) (K : KS s0 hZ L m inn (OutL la wa ls nl ws nw r) s) (lm : LM na la wa i m) (f4 : Four na r i n0 n1 n2 n3) (n1' : N1 k when vd fd m) (n2' : N2 wl (toldS k V) m) (hsh : m (oS "shown") = some (.ref sd))
  (hwl : (wl, listOf wvs.toArray wn) ∈ inn) (hw : StrsAre wvs (lwords k V)) (hS : DctIs w inn sd SH) (hne : la ≠ wa) (hr1 : ∀ q ∈ r, q.1 ≠ la) (hr2 : ∀ q ∈ r, q.1 ≠ wa) (hz1 : ls.length <= 900) (hz2 : ws.length <= 900) (hls : StrsAre ls xs) (T5 : Turn5 k V SH when (styleOf n0))
  (go : ∀ m' inn' s' ls' nl' v, KS s0 hZ L m' inn' (OutL la wa ls' nl' (ws ++ [v]) (nw + 1) r) s' -> LM na la wa (i + 1) m' -> StrsAre ls' (xs ++ ((lline k (lwords k V) when (styleOf n0)).1 :: quietOf n2 (toldS k V))) -> WantV w inn' v ((lline k (lwords k V) when (styleOf n0)).2.map (answerD k SH)) -> Q .next s') :
  wpAny (model pg w) A (execs (tb 19) (lawEnv L)) Q E s := by
 have T5R := T5.read
 conv => enter [3, 1]; whnf
 have G := fun {h} {m} (F : Fr hZ L h m) => a.gl.keeps F.keep
 obtain ⟨nvs, nn, t0, t1, t2, t3, hn, h0, h1, h2, h3, hi⟩ := f4.ex
 obtain ⟨tp, hp⟩ := lm.plc
 obtain ⟨tw, hwhen⟩ := n1'.when
 obtain ⟨tt, htold⟩ := n2'.told
 have nl' : ∀ {h : Heap} {o : Obj} {inn : List (Addr × Obj)} {a1 a2 : List Value} {b1 b2 : Nat}, News hZ L h ((227, o) :: (inn ++ OutL la wa a1 b1 a2 b2 r)) -> h.IsList na nvs.toArray := fun N => N.isList (.tail _ (zR _ (.tail _ (.tail _ hn))))
 refine ks_pure K rfl (fun h o F N => Ev.mod (Ev.fdiv (Ev.num0 F (by exact lm.nums) (by exact hp) (nl' N) h0 (by omega) (by omega)) Ev.int) Ev.int) ?_
 intro y81 s1 y82 K
 obtain ⟨ts, rfl⟩ := y82
 refine ks_unpackT (P := fun vA vB new => IsS (lline k (lwords k V) when (styleOf n0)).1 vA /\ match (lline k (lwords k V) when (styleOf n0)).2 with
  | none => vB = .none
  | some ws => ∃ b vs n, vB = .ref b /\ (b, listOf vs.toArray n) ∈ new /\ StrsAre vs ws) a.hh K rfl (EvK.ofN fun o => EvN.mono (EvN.fn (a.less (D' := 1) (U' := 3) (by decide) (by decide)) (fun h F N => Ev.glob (G F) (by k_is)) (by k_is) (fun h F N => EvL.cons (Ev.nm F (by exact n1'.row)) (EvL.cons (Ev.nm F (by exact n2'.words)) (EvL.cons (Ev.nm F (by exact hwhen)) (EvL.one (Ev.nm F rfl) rfl)))) (fun vs hvs => by
  obtain ⟨_, _, rfl, rfl, _, _, rfl, rfl, _, _, rfl, rfl, _, rfl, rfl⟩ := hvs
  exact law_line w _ hk (.tail _ (zL _ hwl)) hw T5.few (fun x hx => Nat.le_trans (T5.short x hx) (by decide)) T5.small)) (fun v new hv => by
   obtain ⟨c, vx, vy, new', rfl, rfl, _, hx, hy⟩ := hv
   refine ⟨c, vx, vy, rfl, .head _, hx, ?_⟩
   revert hy
   show (match (lline k (lwords k V) when (styleOf n0)).2 with | none => _ | some ws => _) -> _
   cases (lline k (lwords k V) when (styleOf n0)).2 with
   | none => exact id
   | some ws => rintro ⟨b, vs, n, e1, e2, e3⟩; exact ⟨b, vs, n, e1, .tail _ e2, e3⟩)) ?_
 generalize hln : lline k (lwords k V) when (styleOf n0) = ln at T5R go ⊢
 intro vt vr new s2 y81 hl2 K
 obtain ⟨⟨tt2, rfl⟩, hvr⟩ := y81
 have hout : OutOk la wa ls ws r := ⟨hne, hr1, hr2, Nat.le_trans hz1 (by decide), Nat.le_trans hz2 (by decide)⟩
 have hS := hS.mono (news' := new ++ inn) fun p hp => zR _ hp
 refine ks_append K (fun h F => Ev.nm F (by exact lm.lines)) (EvK.of fun h o F N => Ev.nm F rfl) (fun v => ks_appendL hout v) (.head _) (fun v => out_keys) (by rw [List.size_toArray]; exact Nat.le_trans hz1 (by decide)) ?_
 intro y81 y82 s3 y83 y84 K
 obtain ⟨rfl, rfl⟩ := y83
 have K : KS s0 hZ L _ (new ++ inn) (OutL la wa (ls ++ [.str ln.1 tt2]) (nl + 1) ws nw r) s3 := K
 have hls2 : StrsAre (ls ++ [.str ln.1 tt2]) (xs ++ [ln.1]) := strs_append hls (.cons _ _ .nil)
 have hout : OutOk la wa (ls ++ [.str ln.1 tt2]) ws r := ⟨hne, hr1, hr2, by rw [List.length_append]; show _ + 1 <= _; omega, Nat.le_trans hz2 (by decide)⟩
 refine ks_ifJ (b := vr == .none) (P := fun m' inn' out' => LM na la wa i m' /\ (∃ t, m' (oS "told") = some (.str (toldS k V) t)) /\ ∃ v, out' = OutL la wa (ls ++ [.str ln.1 tt2]) (nl + 1) (ws ++ [v]) (nw + 1) r /\ WantV w inn' v (ln.2.map (answerD k SH))) K
  (EvTK.of fun h o F N => EvT.isNone (Ev.nm F rfl)) (fun hb s4 Q' K back => ?_) (fun hb s4 Q' K back => ?_) ?_
 ·have e2 : ln.2 = none := by
   revert hvr
   cases ln.2 with
   | none => intro _; rfl
   | some ws => rintro ⟨b, vs, n, rfl, _⟩; cases hb
  refine ks_append K (fun h F => Ev.nm F (by exact lm.want)) (EvK.of fun h o F N => Ev.none) (fun v => ks_appendW hout v) (.tail _ (.head _)) (fun v => out_keys) (by rw [List.size_toArray]; exact Nat.le_trans hz2 (by decide)) ?_
  intro y81 y82 s5 y83 y84 K
  obtain ⟨rfl, rfl⟩ := y83
  exact wpAny_execs_nil (back _ _ _ _ K ⟨⟨lm.nums, lm.lines, lm.want, lm.plc⟩, ⟨tt, htold⟩, _, rfl, by rw [e2]; rfl⟩)
 ·obtain ⟨rs, e2⟩ : ∃ rs, ln.2 = some rs := by
   revert hvr
   cases ln.2 with
   | none => rintro rfl; cases hb
   | some ws => intro _; exact ⟨ws, rfl⟩
  rw [e2] at hvr
  obtain ⟨b, vs, n, rfl, hbm, hrs⟩ := hvr
  obtain ⟨S, T4⟩ := T5R rs e2
  refine turnElse (na := na) (i := i) (b := b) (sd := sd) (told := toldS k V) a hk K ⟨lm.nums, lm.lines, lm.want, lm.plc⟩ ⟨n1'.row, ⟨tt, htold⟩, ⟨tt2, rfl⟩, hsh⟩ rfl (zL _ hbm) hrs hS hout T4 ?_ fun m' inn' s' d K lm' htold' hd => ?_
  ·exact hE
  ·exact back _ _ _ _ K ⟨lm', htold', _, rfl, by rw [e2]; exact ⟨d, rfl, hd⟩⟩
 clear K hvr hl2 hout
 intro m' inn' y81 s4 y82 K
 obtain ⟨lm, ⟨tt, htold⟩, v, rfl, hv⟩ := y82
 obtain ⟨tp, hp⟩ := lm.plc
 have hout : OutOk la wa (ls ++ [.str ln.1 tt2]) (ws ++ [v]) r := ⟨hne, hr1, hr2, by rw [List.length_append]; show _ + 1 <= _; omega, by rw [List.length_append]; show _ + 1 <= _; omega⟩
 refine ks_ifJ (P := fun m'' inn'' out' => LM na la wa i m'' /\ inn' = inn'' /\ ∃ ls' nl', out' = OutL la wa ls' nl' (ws ++ [v]) (nw + 1) r /\ StrsAre ls' (xs ++ (ln.1 :: quietOf n2 (toldS k V)))) K
  (EvTK.of fun h o F N => EvT.eqI (Ev.mod (Ev.numI F (by exact lm.nums) (by exact hp) (nl' N) h2 (by omega) (by omega)) Ev.int) Ev.int) (fun hb s4 Q' K back => ?_) (fun hb s4 Q' K back => wpAny_execs_nil (back _ _ _ _ K ⟨lm, rfl, _, _, rfl, by rw [quietOf, if_neg (ne_true_of_eq_false hb)]; exact hls2⟩)) ?_
 ·have hj0 := Int.fmod_nonneg_of_pos (Int.fdiv n2 3) (show (0 : Int) < 3 by decide)
  have hj1 := Int.fmod_lt_of_pos (Int.fdiv n2 3) (show (0 : Int) < 3 by decide)
  have hj : (Int.fmod (Int.fdiv n2 3) 3).toNat < (threeOf (toldS k V)).length := by show _ < 3; omega
  have hcast : Int.fmod (Int.fdiv n2 3) 3 = ((Int.fmod (Int.fdiv n2 3) 3).toNat : Int) := (Int.toNat_of_nonneg hj0).symm
  refine ks_append (RN := fun v new => IsS ((threeOf (toldS k V)).getD (Int.fmod (Int.fdiv n2 3) 3).toNat Str.empty) v) K (fun h F => Ev.nm F (by exact lm.lines)) (EvK.ofN fun o => EvN.itemN (j := (Int.fmod (Int.fdiv n2 3) 3).toNat) (P := fun vs => StrsAre vs (threeOf (toldS k V))) (EvN.mono (EvN.list (fun h F N => EvL.cons Ev.str (EvL.cons Ev.str (EvL.one (Ev.sadd Ev.str (Ev.nmS F (by exact htold)) (by have := T5.tz; show 2 + _ <= _; omega)) rfl))) (by rintro _ ⟨_, _, rfl, _, _, _, rfl, _, _, rfl, _⟩; exact Nat.le_of_ble_eq_true rfl)) (by rintro _ _ ⟨d, _, ⟨_, _, rfl, ⟨_, rfl⟩, _, _, rfl, ⟨_, rfl⟩, _, rfl, _, rfl⟩, rfl, rfl⟩; exact ⟨d, _, 0, rfl, .head _, .cons _ _ (.cons _ _ (.cons _ _ .nil))⟩))
   (fun h F N => by rw [<- hcast]; exact Ev.mod (Ev.fdiv (Ev.numI F (by exact lm.nums) (by exact hp) (nl' N) h2 (by omega) (by omega)) Ev.int) Ev.int) (fun vs hu => strs_at hu (getD_some hj)) (by omega)) (fun v => ks_appendL hout v) (.head _) (fun v => out_keys) (by rw [List.size_toArray, List.length_append]; show _ + 1 <= _; omega) ?_
  intro y81 new2 s5 y82 y83 K
  obtain ⟨tq, rfl⟩ := y82
  exact wpAny_execs_nil (back _ _ _ _ (K.less fun p hp => zR _ hp) ⟨lm, rfl, _, _, rfl, by
   rw [quietOf, if_pos hb]
   have := strs_append hls2 (.cons ((threeOf (toldS k V)).getD (Int.fmod (Int.fdiv n2 3) 3).toNat Str.empty) tq .nil)
   rw [List.append_assoc xs] at this
   exact this⟩)
 clear K hout hls2
 intro m'' y81 y82 s5 y83 K
 obtain ⟨lm, rfl, ls', nl2, rfl, hls2⟩ := y83
 obtain ⟨tp, hp⟩ := lm.plc
 refine ks_pure K rfl (fun h o F N => Ev.add (Ev.nmI F hp) Ev.int) ?_
 intro y81 s6 y82 K
 obtain ⟨tp2, rfl⟩ := y82
 exact wpAny_execs_nil (go _ _ _ ls' nl2 v K ⟨lm.nums, lm.lines, lm.want, tp2, by show some (Value.int _ _) = some (Value.int _ _); rw [show ((4 * i : Nat) : Int) + 4 = ((4 * (i + 1) : Nat) : Int) by omega]⟩ hls2 hv)
end
section
variable {prog : Program} {w : World} {A : Around} {env : Env} {h : Heap} {eAZ eB : Expr} {a b : Int} {pos : Pos} {c d : Bool}
theorem EvT.or {M : Model} (h1 : EvT M A env h eAZ c) (h2 : c = false -> EvT M A env h eB d) : EvT M A env h (.BoolOp .Or [eAZ, eB] pos) (c || d) := fun s Q E hs hq => by
 refine isTrue_or (h1 s _ E hs fun tk => ?_)
 cases c with
 | true => exact hq tk
 | false =>
  refine isTrue_or (h2 rfl _ _ E hs fun tk' => ?_)
  cases d with
  | true => exact hq tk'
  | false => exact isTrue_or_nil (hq tk')
theorem EvT.neI (h1 : Ev (model prog w) A env h eAZ (IsI a)) (h2 : Ev (model prog w) A env h eB (IsI b)) (hb : autoParam (behindInMarks .NotEq eB = false) tA0) : EvT (model prog w) A env h (.Compare eAZ [.NotEq] [eB] pos) (a != b) :=
 EvT.cmp h1 h2 (fun s Q E u v _ hu hv hq => by obtain ⟨_, rfl⟩ := hu; obtain ⟨_, rfl⟩ := hv; exact PyProof.Rows.ne_int (hq s.toks)) hb
end
noncomputable def qn (nums : List Int) (j c : Nat) : Int := nums.getD (4 * j + c) 0
noncomputable def vAt (nums : List Int) (j : Nat) : FD := valD (kOf (qn nums j 0)) (qn nums j 1) (qn nums j 2) (qn nums j 3)
noncomputable def fAt (nums : List Int) (j : Nat) : FD := fldD (kOf (qn nums j 0)) (vAt nums j) (whenOf (qn nums j 3))
noncomputable def lineAt (nums : List Int) (j : Nat) : Str × Option (List Str) := lline (kOf (qn nums j 0)) (lwords (kOf (qn nums j 0)) (vAt nums j)) (whenOf (qn nums j 3)) (styleOf (qn nums j 0))
noncomputable def textsAt (nums : List Int) (j : Nat) : List Str := (lineAt nums j).1 :: quietOf (qn nums j 2) (toldS (kOf (qn nums j 0)) (vAt nums j))
noncomputable def wantAt (nums : List Int) (j : Nat) : Option FD := (lineAt nums j).2.map (answerD (kOf (qn nums j 0)) (shownD (kOf (qn nums j 0)) (vAt nums j) (fAt nums j)))
noncomputable def linesOf (nums : List Int) (i : Nat) : List Str := (List.range i).flatMap (textsAt nums)
noncomputable def wantedOf (nums : List Int) (i : Nat) : List (Option FD) := (List.range i).map (wantAt nums)
theorem linesOf_succ (nums : List Int) (i : Nat) : linesOf nums (i + 1) = linesOf nums i ++ textsAt nums i := by
 unfold linesOf; rw [List.range_succ, List.flatMap_append]; simp
theorem wantedOf_succ (nums : List Int) (i : Nat) : wantedOf nums (i + 1) = wantedOf nums i ++ [wantAt nums i] := by
 unfold wantedOf; rw [List.range_succ, List.map_append]; rfl
theorem linesOf_len (nums : List Int) (i : Nat) : (linesOf nums i).length <= 2 * i := by
 induction i with
 | zero => exact Nat.zero_le _
 | succ i ih =>
  rw [linesOf_succ, List.length_append]
  have : (textsAt nums i).length <= 2 := by unfold textsAt quietOf; split <;> simp
  omega
theorem wantedOf_len (nums : List Int) (i : Nat) : (wantedOf nums i).length = i := by unfold wantedOf; simp
inductive Wants (w : World) (T : List (Addr × Obj)) : List Value -> List (Option FD) -> Prop
 | nil : Wants w T [] []
 | cons {v : Value} {o : Option FD} {vs : List Value} {os : List (Option FD)} : WantV w T v o -> Wants w T vs os -> Wants w T (v :: vs) (o :: os)
theorem Wants.mono {w : World} {T T' : List (Addr × Obj)} {vs : List Value} {os : List (Option FD)} (h : Wants w T vs os) (hs : ∀ p ∈ T, p ∈ T') : Wants w T' vs os := by
 induction h with
 | nil => exact .nil
 | cons a _ ih => exact .cons (a.mono hs) ih
theorem Wants.snoc {w : World} {T : List (Addr × Obj)} {vs : List Value} {os : List (Option FD)} {v : Value} {o : Option FD} (h : Wants w T vs os) (hv : WantV w T v o) : Wants w T (vs ++ [v]) (os ++ [o]) := by
 induction h with
 | nil => exact .cons hv .nil
 | cons a _ ih => exact .cons a ih
theorem Wants.length {w : World} {T : List (Addr × Obj)} {vs : List Value} {os : List (Option FD)} (h : Wants w T vs os) : vs.length = os.length := by
 induction h with
 | nil => rfl
 | cons _ _ ih => simp [ih]
structure TurnOk (n0 n1 n2 n3 : Int) : Prop where
 t1 : Turn1 (kOf n0) n1 n2 n3
 t2 : Turn2 (kOf n0) (valD (kOf n0) n1 n2 n3) (fldD (kOf n0) (valD (kOf n0) n1 n2 n3) (whenOf n3)) (whenOf n3)
 t3 : ∃ S, Turn3 (kOf n0) (valD (kOf n0) n1 n2 n3) (fldD (kOf n0) (valD (kOf n0) n1 n2 n3) (whenOf n3)) S (whenOf n3)
 t5 : Turn5 (kOf n0) (valD (kOf n0) n1 n2 n3) (shownD (kOf n0) (valD (kOf n0) n1 n2 n3) (fldD (kOf n0) (valD (kOf n0) n1 n2 n3) (whenOf n3))) (whenOf n3) (styleOf n0)
section
variable {w : World} {A : Around} {L : Addr} {h hZ : Heap} {m : Str -> Option Value} {inn out r : List (Addr × Obj)} {s s0 : Shared} {Q : Flow -> Shared -> Prop} {E : Value -> Shared -> Prop} {na la wa : Addr} {i nl nw : Nat} {n0 n1 n2 n3 : Int} {ls ws : List Value} {xs : List Str}
theorem law_turn (a : At w A (lawEnv L) hZ L 20 200) (hE : PassesOwn (model pg w) A (lawEnv L) E) (K : KS s0 hZ L m [] (OutL la wa ls nl ws nw r) s) (lm : LM na la wa i m) (f4 : Four na r i n0 n1 n2 n3) (hne : la ≠ wa) (hr1 : ∀ q ∈ r, q.1 ≠ la) (hr2 : ∀ q ∈ r, q.1 ≠ wa) (hz1 : ls.length <= 900) (hz2 : ws.length <= 900) (hls : StrsAre ls xs) (T : TurnOk n0 n1 n2 n3)
  (go : ∀ m' inn' s' ls' nl' v, KS s0 hZ L m' inn' (OutL la wa ls' nl' (ws ++ [v]) (nw + 1) r) s' -> LM na la wa (i + 1) m' -> StrsAre ls' (xs ++ ((lline (kOf n0) (lwords (kOf n0) (valD (kOf n0) n1 n2 n3)) (whenOf n3) (styleOf n0)).1 :: quietOf n2 (toldS (kOf n0) (valD (kOf n0) n1 n2 n3)))) ->
   WantV w inn' v ((lline (kOf n0) (lwords (kOf n0) (valD (kOf n0) n1 n2 n3)) (whenOf n3) (styleOf n0)).2.map (answerD (kOf n0) (shownD (kOf n0) (valD (kOf n0) n1 n2 n3) (fldD (kOf n0) (valD (kOf n0) n1 n2 n3) (whenOf n3))))) -> Q .next s') :
  wpAny (model pg w) A (execs turnBody (lawEnv L)) Q E s := by
 have hk := kOf_lt n0
 obtain ⟨S, T3⟩ := T.t3
 refine turn1 a K lm (f4.mono fun p hp => .tail _ (.tail _ hp)) T.t1 fun m1 inn1 s1 vd fd K lm n1' hV hF => ?_
 refine turn2 a hk K lm n1' hV hF T.t2 fun m2 inn2 s2 wl wvs wn xm K lm n1' n2' hx hwl hw hV hF hM => ?_
 refine turn3 a hk K lm n1' n2' hx hV hF hM T3 fun m3 new3 s3 sd K lm n1' n2' hsh hS => ?_
 exact turn5 a hE hk K lm f4 n1' n2' hsh (zR _ hwl) hw hS hne hr1 hr2 hz1 hz2 hls T.t5 go
end
section
variable {w : World} {A : Around} {L : Addr} {h hZ : Heap} {m : Str -> Option Value} {inn out r : List (Addr × Obj)} {s s0 : Shared} {Q : Flow -> Shared -> Prop} {E : Value -> Shared -> Prop} {sa : Addr} {svs : List Value} {ns : List Int}
theorem ints_take {vs : List Value} {ns : List Int} (h : IntsAre vs ns) : ∀ n, IntsAre (vs.take n) (ns.take n) := by
 induction h with
 | nil => intro n; cases n <;> exact .nil
 | cons n t _ ih =>
  intro k
  cases k with
  | zero => exact .nil
  | succ k => exact .cons n t (ih k)
theorem ints_snoc {vs : List Value} {ns : List Int} (h : IntsAre vs ns) (n : Int) (t : Tok) : IntsAre (vs ++ [.int n t]) (ns ++ [n]) := by
 induction h with
 | nil => exact .cons n t .nil
 | cons n t _ ih => exact .cons n t ih
theorem ints_get {vs : List Value} {ns : List Int} (h : IntsAre vs ns) : ∀ {j : Nat}, j < ns.length -> ∃ t, vs[j]? = some (.int (ns.getD j 0) t) := by
 induction h with
 | nil => intro j h; cases h
 | cons n t _ ih =>
  intro j h
  cases j with
  | zero => exact ⟨t, rfl⟩
  | succ j => exact ih (Nat.lt_of_succ_lt_succ h)
theorem law_nums (a : At w A (lawEnv L) hZ L 20 200) (hE : PassesOwn (model pg w) A (lawEnv L) E) (K : KS s0 hZ L m [] [] s) (hs : m (oS "script") = some (.ref sa)) (hsl : ∀ {h m}, Fr hZ L h m -> h.IsList sa svs.toArray) (hz : svs.length <= 999) (hi : IntsAre svs ns)
  (go : ∀ m' s' na nvs nn nums, KS s0 hZ L m' [(na, listOf (nvs : List Value).toArray nn)] [] s' -> m' (oS "numbers") = some (.ref na) -> IntsAre nvs nums -> nums.length <= 24 -> nums.length % 4 = 0 -> Q .next s') :
  wpAny (model pg w) A (execs (lawBody.take 2) (lawEnv L)) Q E s := by
 conv => enter [3, 1]; whnf
 have G := fun {h} {m} (F : Fr hZ L h m) => a.gl.keeps F.keep
 refine ks_assign K rfl (EvK.ofN fun o => EvN.listL (P := (· = svs.take 24)) a (EvN.mono (EvN.sliceTo (i := 24) (fun h F => Ev.nm F (by exact hs)) (fun h F N => hsl F) (fun h F => Ev.int) (by omega)) (by rintro _ _ ⟨l, vs, n, new', rfl, rfl, rfl⟩; exact ⟨l, _, n, rfl, .head _, rfl⟩)) (by rintro _ rfl; rw [List.length_take]; omega)) ?_
 intro y81 y82 s1 y83 hl K
 obtain ⟨na, _, nn, new', rfl, rfl, rfl⟩ := y83
 have K := K.less (inn' := [(na, listOf (svs.take 24).toArray nn)]) fun p hp => by rw [zS.mp hp]; exact .head _
 obtain ⟨o, F, N, ht, hb⟩ := K.ex
 have hne : (227 : Addr) ≠ na := fun e => K.ne (na, _) (.head _) e.symm
 refine st_while (σ := List Value × Nat) (fun c => [(227, o), (na, listOf c.1.toArray c.2)]) (fun c m g => AllBare g /\ m (oS "numbers") = some (.ref na) /\ c.1.length <= 24 /\ ∃ nums, IntsAre c.1 nums) (fun c => 24 - c.1.length) (svs.take 24, nn) F N ⟨hb, rfl, by rw [List.length_take]; omega, _, ints_take hi 24⟩ ?_ hE
 intro y81 m2 h g y82 F2 N2
 obtain ⟨vs, n⟩ := y81
 obtain ⟨hb2, e1, hlen, nums, hin⟩ := y82
 dsimp only at hlen hin N2
 have hL : ∀ {h}, News hZ (lawEnv L).locals h [(227, o), (na, listOf vs.toArray n)] -> h.IsList na vs.toArray := fun N => N.isList (.tail _ (.head _))
 refine ⟨_, EvT.or (EvT.eqI (Ev.len (G F2) (Ev.nm F2 e1) (hL N2) (by omega)) Ev.int) (fun _ => EvT.neI (Ev.mod (Ev.len (G F2) (Ev.nm F2 e1) (hL N2) (by omega)) Ev.int) Ev.int), fun hb0 tk => ?_, fun hb0 tk => wpAny_execs_nil ?_⟩
 ·have h24 : vs.length < 24 := by
   rcases Nat.lt_or_ge vs.length 24 with h | h
   ·exact h
   ·exfalso
    have e : vs.length = 24 := Nat.le_antisymm hlen h
    rw [e] at hb0
    revert hb0; decide
  refine st_append F2 N2 (Ev.nm F2 e1) (Ev.add (Ev.mul Ev.int (Ev.len (G F2) (Ev.nm F2 e1) (hL N2) (by omega)) (IntMulOk.of_left (intBits_le_64 (by decide) (by decide)))) Ev.int) (fun v _ => .tail hne (.head fun q hq => nomatch hq)) (.tail _ (.head _)) (by rw [List.size_toArray]; omega) ?_
  intro y81 h3 tk3 y82 F3 N3
  obtain ⟨t3, rfl⟩ := y82
  exact wpAny_execs_nil ⟨(vs ++ [.int (5 * (vs.length : Int) + 1) t3], n + 1), _, h3, g, tk3, rfl, F3, by rw [List.push_toArray] at N3; exact N3, ⟨hb2, e1, by show (vs ++ [_]).length <= 24; rw [List.length_append]; exact h24, _, ints_snoc hin _ _⟩, by show 24 - (vs ++ [_]).length < 24 - vs.length; rw [List.length_append]; show 24 - (_ + 1) < _; omega⟩
 ·refine go _ _ na vs n nums (K.to F2 (inn' := [(na, listOf vs.toArray n)]) (out' := []) N2 ht hb2 (fun q hq => by rw [zS.mp hq]; exact fun e => hne e.symm) fun q hq => nomatch hq) e1 hin (by rw [<- hin.length]; exact hlen) ?_
  rw [<- hin.length]
  have h1 := (Bool.or_eq_false_iff.mp hb0).2
  have h2 : Int.fmod (vs.length : Int) 4 = 0 := by simpa using h1
  have h3 : (vs.length : Int) % 4 = 0 := by rw [<- Int.fmod_eq_emod_of_nonneg _ (by decide)]; exact h2
  omega
end
structure WC where
 i : Nat
 ls : List Value
 nl : Nat
 ws : List Value
 nw : Nat
 r : List (Addr × Obj)
 tab : Obj
section
variable {w : World} {A : Around} {L : Addr} {h hZ : Heap} {m : Str -> Option Value} {inn out r : List (Addr × Obj)} {s s0 : Shared} {Q : Flow -> Shared -> Prop} {E : Value -> Shared -> Prop} {na : Addr} {nvs : List Value} {nn : Nat} {nums : List Int}
theorem out_swap {la wa : Addr} {ls ws : List Value} {nl nw : Nat} {o : Obj} (N : News hZ L h ((227, o) :: (inn ++ OutL la wa ls nl ws nw r))) : News hZ L h ((227, o) :: OutL la wa ls nl ws nw (inn ++ r)) := fun p hp => N p (by
 rcases zC.mp hp with rfl | hp
 ·exact .head _
 ·rcases zC.mp hp with rfl | hp
  ·exact .tail _ (zR _ (.head _))
  ·rcases zC.mp hp with rfl | hp
   ·exact .tail _ (zR _ (.tail _ (.head _)))
   ·rcases zA.mp hp with hp | hp
    ·exact .tail _ (zL _ hp)
    ·exact .tail _ (zR _ (.tail _ (.tail _ hp))))
theorem law_lines (a : At w A (lawEnv L) hZ L 20 200) (hE : PassesOwn (model pg w) A (lawEnv L) E) (hT : ∀ n0 n1 n2 n3, TurnOk n0 n1 n2 n3) (K : KS s0 hZ L m [(na, listOf nvs.toArray nn)] [] s) (e1 : m (oS "numbers") = some (.ref na)) (hin : IntsAre nvs nums) (hlen : nums.length <= 24) (h4 : nums.length % 4 = 0)
  (go : ∀ m' s' la wa ls nl ws nw r, KS s0 hZ L m' [] (OutL la wa ls nl ws nw r) s' -> m' (oS "lines") = some (.ref la) -> m' (oS "wanted") = some (.ref wa) -> la ≠ wa -> (∀ q ∈ r, q.1 ≠ la /\ q.1 ≠ wa /\ q.1 ≠ 227) -> StrsAre ls (linesOf nums (nums.length / 4)) -> Wants w r ws (wantedOf nums (nums.length / 4)) -> Q .next s') :
  wpAny (model pg w) A (execs ((lawBody.drop 2).take 4) (lawEnv L)) Q E s := by
 conv => enter [3, 1]; whnf
 have G := fun {h} {m} (F : Fr hZ L h m) => a.gl.keeps F.keep
 refine ks_assign K rfl (EvK.ofN fun o => EvN.list (fun h F N => EvL.nil) (by rintro _ rfl; decide)) ?_
 intro y81 y82 s1 y83 hl1 K
 obtain ⟨la, _, rfl, rfl, rfl⟩ := y83
 refine ks_assign K rfl (EvK.ofN fun o => EvN.list (fun h F N => EvL.nil) (by rintro _ rfl; decide)) ?_
 intro y81 y82 s2 y83 hl2 K
 obtain ⟨wa, _, rfl, rfl, rfl⟩ := y83
 refine ks_pure K rfl (fun h o F N => Ev.int) ?_
 intro y81 s3 y82 K
 obtain ⟨tp, rfl⟩ := y82
 have hlw : la ≠ wa := hl2 (la, _) (.head _) _ (.head _)
 have hnl : na ≠ la := hl1 (na, _) (.head _) _ (.head _)
 have hnw : na ≠ wa := hl2 (na, _) (.tail _ (.head _)) _ (.head _)
 obtain ⟨o, F, N, ht, hb⟩ := K.ex
 have hnr : ∀ x ∈ [(na, listOf nvs.toArray nn)], x.1 ≠ la /\ x.1 ≠ wa /\ x.1 ≠ 227 := fun x hx => by
  rw [zS.mp hx]
  exact ⟨hnl, hnw, K.ne (na, _) (.tail _ (.tail _ (.head _)))⟩
 have h227l : la ≠ 227 := K.ne (la, _) (.tail _ (.head _))
 have h227w : wa ≠ 227 := K.ne (wa, _) (.head _)
 have N : News hZ (lawEnv L).locals s3.heap ((227, o) :: OutL la wa [] 0 [] 0 [(na, listOf nvs.toArray nn)]) := fun p hp => N p (by
  rcases zC.mp hp with rfl | hp
  ·exact .head _
  ·rcases zC.mp hp with rfl | hp
   ·exact .tail _ (.tail _ (.head _))
   ·rcases zC.mp hp with rfl | hp
    ·exact .tail _ (.head _)
    ·exact .tail _ (.tail _ (.tail _ hp)))
 have hnn : nvs.length = nums.length := hin.length
 refine st_while (σ := WC) (fun c => (227, c.tab) :: OutL la wa c.ls c.nl c.ws c.nw c.r) (fun c m g => AllBare g /\ Tab c.tab /\ LM na la wa c.i m /\ (na, listOf nvs.toArray nn) ∈ c.r /\ c.i <= nums.length / 4 /\ StrsAre c.ls (linesOf nums c.i) /\ Wants w c.r c.ws (wantedOf nums c.i) /\ ∀ x ∈ c.r, x.1 ≠ la /\ x.1 ≠ wa /\ x.1 ≠ 227) (fun c => nums.length / 4 - c.i)
  ⟨0, [], 0, [], 0, [(na, listOf nvs.toArray nn)], o⟩ F N ⟨hb, ht, ⟨e1, rfl, rfl, tp, rfl⟩, .head _, Nat.zero_le _, .nil, .nil, hnr⟩ ?_ hE
 clear hl1 hl2
 intro y81 m2 h g y82 F2 N2
 obtain ⟨i, ls, nl, ws, nw, r, tab⟩ := y81
 obtain ⟨hb2, ht2, lm, hnm, hiq, hls, hws, hr⟩ := y82
 dsimp only at ht2 lm hnm hiq hls hws hr N2
 obtain ⟨tp2, hp2⟩ := lm.plc
 refine ⟨_, EvT.ltI (Ev.nmI F2 hp2) (Ev.len (G F2) (Ev.nm F2 lm.nums) (N2.isList (.tail _ (.tail _ (.tail _ hnm)))) (by omega)), fun hb0 tk => ?_, fun hb0 tk => wpAny_execs_nil ?_⟩
 ·have hlt : 4 * i < nvs.length := by have := of_decide_eq_true hb0; omega
  have hi4 : 4 * i + 3 < nums.length := by omega
  obtain ⟨t0, h0⟩ := ints_get hin (j := 4 * i + 0) (by omega)
  obtain ⟨t1, h1⟩ := ints_get hin (j := 4 * i + 1) (by omega)
  obtain ⟨t2, h2⟩ := ints_get hin (j := 4 * i + 2) (by omega)
  obtain ⟨t3, h3⟩ := ints_get hin (j := 4 * i + 3) (by omega)
  have hl1 : ls.length <= 900 := by rw [strs_len hls]; have := linesOf_len nums i; omega
  have hl2 : ws.length <= 900 := by rw [hws.length, wantedOf_len]; omega
  show wpAny (model pg w) A (execs turnBody (lawEnv L)) _ _ _
  refine law_turn (s0 := s3) (n0 := qn nums i 0) (n1 := qn nums i 1) (n2 := qn nums i 2) (n3 := qn nums i 3) a hE ⟨⟨h, g, tk, rfl⟩, ⟨tab, F2, N2, ht2, hb2⟩, ?_, fun q hq x hx => nomatch hx⟩ lm ⟨nvs, nn, t0, t1, t2, t3, hnm, h0, h1, h2, h3, by omega⟩ hlw (fun q hq => (hr q hq).1) (fun q hq => (hr q hq).2.1) hl1 hl2 hls (hT _ _ _ _) fun m' inn' s' ls' nl' v K' lm' hls' hv => ?_
  ·intro q hq
   rcases zC.mp hq with rfl | hq
   ·exact h227l
   ·rcases zC.mp hq with rfl | hq
    ·exact h227w
    ·exact (hr q hq).2.2
  ·obtain ⟨⟨h', g', t', rfl⟩, ⟨o', F', N', ht', hb'⟩, ne', ap'⟩ := K'
   refine ⟨⟨i + 1, ls', nl', ws ++ [v], nw + 1, inn' ++ r, o'⟩, m', h', g', t', rfl, F', out_swap N', ⟨hb', ht', lm', zR _ hnm, by show i + 1 <= _; omega, by show StrsAre ls' _; rw [linesOf_succ]; exact hls', ?_, fun x hx => ?_⟩, by show nums.length / 4 - (i + 1) < nums.length / 4 - i; omega⟩
   ·show Wants w (inn' ++ r) (ws ++ [v]) _
    rw [wantedOf_succ]
    exact (hws.mono fun p hp => zR _ hp).snoc (hv.mono fun p hp => zL _ hp)
   ·rcases zA.mp hx with hx | hx
    ·exact ⟨(ap' (la, _) (.head _) x hx).symm, (ap' (wa, _) (.tail _ (.head _)) x hx).symm, ne' x (zL _ hx)⟩
    ·exact hr x hx
 ·have hiq2 : i = nums.length / 4 := by have := of_decide_eq_false hb0; omega
  subst hiq2
  refine go m2 _ la wa ls nl ws nw r (K.to (inn' := []) (out' := OutL la wa ls nl ws nw r) F2 N2 ht2 hb2 (fun q hq => ?_) fun q hq x hx => nomatch hx) lm.lines lm.want hlw hr hls hws
  rcases zC.mp hq with rfl | hq
  ·exact h227l
  ·rcases zC.mp hq with rfl | hq
   ·exact h227w
   ·exact (hr q hq).2.2
end
section
open PySem.MeetsSeq PySem.MeetsSeq2 PySem.MeetsSeq3 PySem.SeqAt PySem.AutoSeq1 Builtin
variable {w : World} {A : Around} {s : Shared}
noncomputable def EqW (w : World) (A : Around) (s : Shared) (v u : Value) : Prop := ∀ (E : Value -> Shared -> Prop) (Q : Bool -> Shared -> Prop), Q true s -> wpAny (model pg w) A (eqBool v u) Q E s
theorem eqW_none : EqW w A s .none .none := fun E Q h => by
 unfold eqBool
 refine wpAny_holding ?_
 rw [if_pos (by rfl)]
 exact wpAny_bind (wpAny_rule (wpAny_pure h))
theorem ne_loopW (l b : Addr) (vs us : List Value) (n n2 : Nat) (hsz : vs.length = us.length) (k : Nat) :
  ∀ i : Nat, vs.length - i = k -> ∀ (A : Around) (R : Result -> Shared -> Prop) (s : Shared), s.heap.get? l = some (listOf vs.toArray n) -> s.heap.get? b = some (listOf us.toArray n2) -> (∀ (j : Nat) (v u : Value), vs[j]? = some v -> us[j]? = some u -> EqW w A.in1 s v u) -> R (.ok (.ret (.bool false))) s ->
   wpAny (model pg w) A.in1 (Builtin.«list.__eq__.loop» ⟨[.ref l, .ref b, rawInt i, rawInt 3], []⟩) (fun fin s' => match fin with | .done f => R (.ok f) s' | .again c' => c'.quiet = true /\ codeAny (model pg w) A c' R s') (fun e s' => R (.error e) s') s := by
 induction k with
 | zero =>
  intro i hk A R s hl hb he h
  obtain ⟨hp, g, d, tk, os⟩ := s
  unfold W.listOf at hl hb
  wp_walk using wpAny_loadPart' hl, wpAny_loadPart' hb
  have hi1 : vs.toArray[((i : Nat) : Int).toNat]? = none := by simp; omega
  have hi2 : us.toArray[((i : Nat) : Int).toNat]? = none := by simp; omega
  rw [hi1, hi2]
  wp_walk using wpAny_loadPart' hl, wpAny_loadPart' hb
  show R (.ok (.ret (.bool (vs.toArray.size != us.toArray.size)))) _
  simpa [hsz] using h
 | succ k ih =>
  intro i hk A R s hl hb he h
  have hl0 := hl
  have hb0 := hb
  obtain ⟨hp, g, d, tk, os⟩ := s
  unfold W.listOf at hl hb
  wp_walk using wpAny_loadPart' hl, wpAny_loadPart' hb
  have hlt : i < vs.length := by omega
  have hlt2 : i < us.length := by omega
  have hi1 : vs.toArray[((i : Nat) : Int).toNat]? = some vs[i] := by simp [hlt]
  have hi2 : us.toArray[((i : Nat) : Int).toNat]? = some us[i] := by simp [hlt2]
  have hc : ((i : Int) + 1) = ((i + 1 : Nat) : Int) := by push_cast; rfl
  rw [hi1, hi2]
  refine wpAny_bind (he i _ _ (List.getElem?_eq_getElem hlt) (List.getElem?_eq_getElem hlt2) _ _ ?_)
  wp_walk
  rw [hc]
  exact ⟨plainId_quiet plain_eq_loop _, codeAny_builtin entry_eq_loop (by
   rw [Around.under_plainId plain_eq_loop _]
   exact ih (i + 1) (by omega) A R _ hl0 hb0 he h)⟩
theorem list_neW {l b : Addr} {vs us : List Value} {n n2 : Nat} {Q : Value -> Shared -> Prop} {E : Value -> Shared -> Prop} (hsz : vs.length = us.length) (hu : A.units < cLine) (hl : s.heap.get? l = some (W.listOf vs.toArray n)) (hb : s.heap.get? b = some (W.listOf us.toArray n2))
  (he : ∀ (j : Nat) (v u : Value), vs[j]? = some v -> us[j]? = some u -> EqW w A.in1 s v u) (h : Q (.bool false) s) : wpAny (model pg w) A (compareOp .NotEq (.ref l) (.ref b)) Q E s := by
 refine wpAny_richCompare_same_room (op := .NotEq) (T := "list") ⟨_, hl, rfl⟩ ⟨_, hb, rfl⟩ F.slot_list_ne (wpAny_call ?_) hu
 refine codeAny_call_builtin F.slot_list_ne.plain F.entry_list_ne (F.slot_list_ne.check _ _ _ _ _ _ _ _ ⟨_, hl, rfl⟩ (F.args_list_ne_2 _ _) ?_)
 have hl0 := hl
 have hb0 := hb
 obtain ⟨hp, g, d, tk, os⟩ := s
 have f3 := AutoSeq1.sub_list_list
 unfold W.listOf at hl hb
 have hne : ¬ (vs.toArray.size != us.toArray.size) = true := by simp [hsz]
 wp_walk using wpAny_loadPart' hl, wpAny_loadPart' hb
 exact ⟨plainId_quiet plain_eq_loop _, codeAny_builtin entry_eq_loop (by
  rw [Around.under_plainId plain_eq_loop _]
  exact ne_loopW (w := w) l b vs us n n2 hsz _ 0 rfl A (fun r s' => match r with | .ok (.ret v) => v ≠ Value.notImplemented /\ Q v s' | .ok _ => False | .error e => E e s') _ hl0 hb0 he (show Value.bool false ≠ Value.notImplemented /\ Q (.bool false) _ from ⟨(fun x => nomatch x), h⟩))⟩
theorem eqW_dict {D' U' : Nat} {env : Env} {A₀ : Around} {hZ : Heap} {L : Addr} {m : Str -> Option Value} {news : List (Addr × Obj)} {x y : Addr} {Dx Dy : FD} (a : At w A₀ env hZ L D' U') (F : Fr hZ L s.heap m) (N : News hZ L s.heap news) (hx : DctIs w news x Dx) (hy : DctIs w news y Dy) (hu : A.units + 100 < cLine) (he : dEq Dx Dy = true) : EqW w A s (.ref x) (.ref y) := fun E Q h => by
 obtain ⟨oa, Ta, ma, hDa, hTa⟩ := hx
 obtain ⟨ob, Tb, mb, hDb, hTb⟩ := hy
 unfold eqBool
 refine wpAny_holding ?_
 split
 ·exact wpAny_bind (wpAny_rule (wpAny_pure h))
 ·dsimp only
  refine wpAny_bind (wpAny_mono (show wpAny (model pg w) A (richCompare .Eq (.ref x) (.ref y)) (fun v s' => v = .bool true /\ Q true s') E s from d_eq (T := Ta ++ Tb) N (fun p hp => ?_) ma mb (hDa.mono fun p hp => zL _ hp) (hDb.mono fun p hp => zR _ hp) hu ⟨by rw [he], h⟩) (fun v s' hv => ?_) fun _ _ e => e)
  ·rcases zA.mp hp with hp | hp
   ·exact hTa.get a F N p hp
   ·exact hTb.get a F N p hp
  ·obtain ⟨rfl, hq⟩ := hv
   show wpAny (model pg w) A (truthy (.bool true)) Q E s'
   exact wpAny_truthy_bool hq
end
noncomputable def plB (p : Addr × Obj) : Bool := seqB p.2 || p.2.cls == .type "dict"
theorem plB_plain {p : Addr × Obj} (h : plB p = true) : plainO p.2 := by
 unfold plB seqB at h
 constructor <;> (intro e; rw [e] at h; revert h; decide)
theorem DctIs.filt {w : World} {led : List (Addr × Obj)} {d : Addr} {D : FD} (h : DctIs w led d D) : DctIs w (led.filter plB) d D := by
 obtain ⟨od, T, hm, ⟨lo, kvs, hd, hf⟩, hT⟩ := h
 refine ⟨od, T.filter fun p => seqB p.2, List.mem_filter.mpr ⟨hm, ?_⟩, ⟨lo, kvs, hd, fld_filter hf⟩, fun p hp => ?_⟩
 ·obtain ⟨_, _, hx, _⟩ := hd
  show (seqB od || od.cls == .type "dict") = true
  rw [hx.1, beq_self_eq_true, Bool.or_true]
 ·obtain ⟨h1, h2⟩ := List.mem_filter.mp hp
  exact (hT p h1).imp (fun z => List.mem_filter.mpr ⟨z, by show (seqB p.2 || _) = true; rw [h2]; rfl⟩) id
theorem Wants.filt {w : World} {T : List (Addr × Obj)} {vs : List Value} {os : List (Option FD)} (h : Wants w T vs os) : Wants w (T.filter plB) vs os := by
 induction h with
 | nil => exact .nil
 | @cons v o vs os a _ ih =>
  refine .cons ?_ ih
  cases o with
  | none => exact a
  | some D => obtain ⟨d, h1, h2⟩ := a; exact ⟨d, h1, h2.filt⟩
theorem Wants.at {w : World} {T : List (Addr × Obj)} {vs : List Value} {os : List (Option FD)} (h : Wants w T vs os) : ∀ {j : Nat} {v : Value}, vs[j]? = some v -> ∃ o, os[j]? = some o /\ WantV w T v o := by
 induction h with
 | nil => intro j v h; simp at h
 | cons a _ ih =>
  intro j v h
  cases j with
  | zero => cases (show some _ = some _ from h); exact ⟨_, rfl, a⟩
  | succ j => exact ih (by simpa using h)
noncomputable def NoLst (D : FD) : Prop := ∀ p ∈ D, ∀ ns, p.2 ≠ .lst ns
theorem fld_tups {T : List (Addr × Obj)} {kvs : List (Str × Value)} {D : FD} (h : Fld T kvs D) (hD : NoLst D) : Fld (T.filter fun p => p.2.cls == .type "tuple") kvs D := by
 induction h with
 | nil => exact .nil
 | @cons k v d kvs D a _ ih =>
  refine .cons ?_ (ih fun p hp => hD p (.tail _ hp))
  cases a with
  | int => exact .int _ _
  | str => exact .str _ _
  | tup hm hi => exact .tup (List.mem_filter.mpr ⟨hm, by rfl⟩) hi
  | lst hm hi => exact absurd rfl (hD _ (.head _) _)
theorem MsgIs.avoid {w : World} {led : List (Addr × Obj)} {x fa : Addr} {D : FD} (h : MsgIs w led x D) (hD : NoLst D) (hf : ∀ q ∈ led, q.1 = fa -> q.2.cls = .type "list") : MsgIs w (led.filter fun q => !(q.1 == fa)) x D := by
 have keep : ∀ p ∈ led, p.2.cls ≠ .type "list" -> p ∈ led.filter fun q => !(q.1 == fa) := fun p hp hne => List.mem_filter.mpr ⟨hp, by
  by_cases e : p.1 = fa
  ·exact absurd (hf p hp e) hne
  ·simp [e]⟩
 obtain ⟨dx, d, t, h1, h2, od, T, hm, ⟨lo, kvs, hd, hfl⟩, hT⟩ := h
 refine ⟨dx, d, t, keep _ h1 (by show Value.ref 418 ≠ _; simp), keep _ h2 (by show Value.type "dict" ≠ _; simp), od, _, keep _ hm ?_, ⟨lo, kvs, hd, fld_tups hfl hD⟩, fun p hp => ?_⟩
 ·obtain ⟨_, _, hx, _⟩ := hd
  rw [hx.1]; simp
 ·obtain ⟨h1, h2⟩ := List.mem_filter.mp hp
  exact (hT p h1).imp (fun z => keep p z (by rw [beq_iff_eq.mp h2]; simp)) id
inductive SameD : List (Option FD) -> List (Option FD) -> Prop
 | nil : SameD [] []
 | bad {ys zs : List (Option FD)} : SameD ys zs -> SameD (none :: ys) (none :: zs)
 | good {D W : FD} {ys zs : List (Option FD)} : DictOk D -> NoLst D -> dEq (dictD D) W = true -> SameD ys zs -> SameD (some D :: ys) (some W :: zs)
theorem SameD.length {ys zs : List (Option FD)} (h : SameD ys zs) : ys.length = zs.length := by
 induction h with
 | nil => rfl
 | bad _ ih => simp [ih]
 | good _ _ _ _ ih => simp [ih]
theorem SameD.at {ys zs : List (Option FD)} (h : SameD ys zs) : ∀ {j : Nat} {y : Option FD}, ys[j]? = some y -> ∃ z, zs[j]? = some z /\ match y, z with
  | some D, some W => DictOk D /\ NoLst D /\ dEq (dictD D) W = true
  | none, none => True
  | _, _ => False := by
 induction h with
 | nil => intro j y h; simp at h
 | bad _ ih =>
  intro j y h
  cases j with
  | zero => cases (show some _ = some _ from h); exact ⟨_, rfl, trivial⟩
  | succ j => exact ih (by simpa using h)
 | good a b c _ ih =>
  intro j y h
  cases j with
  | zero => cases (show some _ = some _ from h); exact ⟨_, rfl, a, b, c⟩
  | succ j => exact ih (by simpa using h)
section
variable {prog : Program} {w : World} {A : Around} {E : Value -> Shared -> Prop} {s : Shared} {env : Env} {R : Result -> Shared -> Prop}
theorem codeC_forT {target : Expr} {it : Value} {body orelse : List Stmt} (I : Nat -> Shared -> Prop)
  (turn : ∀ n s, I n s -> wpC (model prog w) A (pyNext it) (fun r sA => match r with
   | none => wpAny (model prog w) A (execs orelse env) (fun f sC => R (.ok f) sC) (notedBy (model prog w) A env fun e s' => R (.error e) s') sA
   | some v => wpAny (model prog w) A (letOwnedTupleGo target it v) (fun _ sA => wpAny (model prog w) A (assign target env v) (fun _ sB => wpC (model prog w) A (execs body env) (fun f sC => match f with
     | .next | .cont => ∃ m, m < n /\ I m sC
     | .brk => R (.ok .next) sC
     | .ret v => R (.ok (.ret v)) sC) (notedBy (model prog w) A env fun e s' => R (.error e) s') sB) (notedBy (model prog w) A env fun e s' => R (.error e) s') sA) (notedBy (model prog w) A env fun e s' => R (.error e) s') sA) (notedBy (model prog w) A env fun e s' => R (.error e) s') s)
  (n : Nat) (h : I n s) : codeC (model prog w) A (.forLoop target it body orelse env) R s := by
 refine codeC_loop rfl I (fun n s hI => ?_) n h
 show wpC _ _ ((forTurn target it body orelse env).onRaise (fun x => do noteFrame x env; theTreesLotGoes x)) _ _ s
 refine wpC_noted ?_
 refine wpC_bindA (wpAny_standAt (wpC_bind ?_))
 refine wpC_onRaise (wpC_mono (turn n s hI) (fun r sA hAZ => ?_) fun _ _ h' => wpAny_standAt h')
 cases r with
 | none => exact wpC_pure (.inr ⟨rfl, codeC_of (codeAny_block hAZ)⟩)
 | some v =>
  refine wpC_bindA (wpAny_mono hAZ (fun _ sA' hA' => wpC_bindA (wpAny_mono hA' (fun _ sB hBZ => wpC_bind (wpC_mono hBZ (fun f sC hCZ => ?_) fun _ _ h' => h')) fun _ _ h' => h')) fun _ _ h' => h')
  cases f with
  | next => exact wpC_pure (.inl ⟨rfl, hCZ⟩)
  | cont => exact wpC_pure (.inl ⟨rfl, hCZ⟩)
  | brk => exact wpC_pure hCZ
  | ret v => exact wpC_pure hCZ
theorem letOwned_gen {elts : List Expr} {x1 : Nat} {pos : Pos} {g : Nat} {nm qn : Value} {I T : Addr} {Q : Unit -> Shared -> Prop} (hg : s.heap.get? I = some (genObj g nm qn)) (hQ : Q () s) : wpAny (model prog w) A (letOwnedTupleGo (.Tuple elts x1 pos) (.ref I) (.ref T)) Q E s := by
 unfold letOwnedTupleGo
 refine wpAny_bind (wpAny_load hg ?_)
 show wpAny _ A (if (["enumerate", "zip", "dict_itemiterator", "dict_reverseitemiterator", "odict_iterator", "itertools.zip_longest", "itertools.pairwise"].contains "generator" &&
   (#[.int g 0, nm, qn] : Array Value)[0]? == some (rawInt T)) = true then _ else _) Q E s
 rw [if_neg (by
  intro h
  rw [show (["enumerate", "zip", "dict_itemiterator", "dict_reverseitemiterator", "odict_iterator", "itertools.zip_longest", "itertools.pairwise"].contains "generator") = false from by decide, Bool.false_and] at h
  cases h)]
 exact wpAny_pure hQ
end
structure RI (w : World) (A : Around) (hZ : Heap) (L Lg fa ga la wa : Addr) (ls : List Value) (nl : Nat) (ws : List Value) (nw : Nat) (gg : Array GenState) (dlZ : List (Addr × Obj)) (nm qn : Value) (ys wo : List (Option FD)) (s0 : Shared) (j : Nat) (s : Shared) : Prop where
 le : j <= ys.length
 ex : ∃ m fs nf dl cond gs oL, (∃ h t, s = (Sg s0 h (gg.push gs) t)) /\ Fr hZ L s.heap m /\ m (oS "found") = some (.ref fa) /\ m (oS "wanted") = some (.ref wa) /\
  News hZ L s.heap ((fa, listOf (fs : List Value).toArray nf) :: (ga, genObj gg.size nm qn) :: (la, listOf ls.toArray nl) :: (wa, listOf ws.toArray nw) :: dl) /\ (∀ p ∈ dlZ, p ∈ dl) /\
  (∀ q ∈ dl, plainO q.2 /\ q.1 ≠ fa /\ q.1 ≠ Lg) /\ Wants w dl fs ((ys.take j).map (Option.map dictD)) /\ Wants w dl ws wo /\ News hZ L s.heap cond /\ (∀ q ∈ cond, q.1 ≠ fa) /\ (Lg, oL) ∈ cond /\
  ∀ s'', (∃ m, Fr hZ L s''.heap m) -> (∀ p ∈ cond, s''.heap.get? p.1 = some p.2) -> GoesC (model pg w) A.in1 (GenR hZ L Lg) (YieldP w hZ L ys Lg la (listOf ls.toArray nl)) (ys.length - j) gs (.send .none) s''
theorem push_set (gg : Array GenState) (x y : GenState) : (gg.push x).setIfInBounds gg.size y = gg.push y := by
 apply Array.ext' 
 simp [Array.toList_setIfInBounds, Array.toList_push, List.set_append_right]
section
variable {w : World} {A : Around} {L : Addr} {hZ : Heap} {m : Str -> Option Value} {r : List (Addr × Obj)} {s s0 : Shared} {Q : Flow -> Shared -> Prop} {E : Value -> Shared -> Prop} {Lg fa ga la wa : Addr} {nl nw : Nat} {gg : Array GenState} {dlZ : List (Addr × Obj)} {nm qn : Value} {ls ws : List Value} {xs : List Str} {os : List (Option (Option FD))} {ys wo : List (Option FD)} {j : Nat}
theorem kept_fr {sZ sA : Shared} (kp : Kept hZ L Lg sZ sA) (F : Fr hZ L sZ.heap m) : Fr hZ L sA.heap m := ⟨kp.ns m F.ns, kp.stays F.keep, F.above⟩
theorem kept_news {sZ sA : Shared} {led : List (Addr × Obj)} (kp : Kept hZ L Lg sZ sA) (N : News hZ L sZ.heap led) (hp : ∀ q ∈ led, plainO q.2 /\ q.1 ≠ Lg) : News hZ L sA.heap led := fun q hq => by
 obtain ⟨n1, n2, n3⟩ := N q hq
 exact ⟨kp.old q (mem_maxLed.mpr ⟨n3, by simp [n2, (hp q hq).2], n1, (hp q hq).1⟩), n2, n3⟩
theorem base_plain {dl : List (Addr × Obj)} {fs : List Value} {nf : Nat} (hg : ga ≠ Lg) (hl : la ≠ Lg) (hw : wa ≠ Lg) (hf : fa ≠ Lg) (hd : ∀ q ∈ dl, plainO q.2 /\ q.1 ≠ fa /\ q.1 ≠ Lg) :
  ∀ q ∈ (fa, listOf fs.toArray nf) :: (ga, genObj gg.size nm qn) :: (la, listOf ls.toArray nl) :: (wa, listOf ws.toArray nw) :: dl, plainO q.2 /\ q.1 ≠ Lg := fun q hq => by
 rcases zC.mp hq with rfl | hq
 ·exact ⟨lst_plain, hf⟩
 ·rcases zC.mp hq with rfl | hq
  ·exact ⟨⟨by show Value.type "generator" ≠ _; decide, by show Value.type "generator" ≠ _; decide⟩, hg⟩
  ·rcases zC.mp hq with rfl | hq
   ·exact ⟨lst_plain, hl⟩
   ·rcases zC.mp hq with rfl | hq
    ·exact ⟨lst_plain, hw⟩
    ·exact ⟨(hd q hq).1, (hd q hq).2.2⟩
theorem read_next {R : Option Value -> Shared -> Prop} (a : At w A (lawEnv L) hZ L 20 200) (hgl : ga ≠ Lg) (hll : la ≠ Lg) (hwl : wa ≠ Lg) (hfl : fa ≠ Lg) (hLg : hZ.get? Lg = none /\ Lg ≠ L) (hfL : fa ≠ la) (hI : RI w A hZ L Lg fa ga la wa ls nl ws nw gg dlZ nm qn ys wo s0 j s)
  (end_ : ∀ sA m fs nf dl, (∃ h t, sA = (Sg s0 h (gg.push .finished) t)) -> Fr hZ L sA.heap m -> m (oS "found") = some (.ref fa) -> m (oS "wanted") = some (.ref wa) ->
   News hZ L sA.heap ((fa, listOf (fs : List Value).toArray nf) :: (ga, genObj gg.size nm qn) :: (la, listOf ls.toArray nl) :: (wa, listOf ws.toArray nw) :: dl) -> (∀ p ∈ dlZ, p ∈ dl) -> Wants w dl fs (ys.map (Option.map dictD)) -> Wants w dl ws wo -> R none sA)
  (turn : ∀ v sA o led, j < ys.length -> ys[j]? = some o -> Yields w led v o -> News hZ L sA.heap led -> (∀ q ∈ led, plainO q.2 /\ q.1 ≠ Lg) ->
   (∃ m fs nf dl cond gs oL, (∃ h t, sA = (Sg s0 h (gg.push gs) t)) /\ Fr hZ L sA.heap m /\ m (oS "found") = some (.ref fa) /\ m (oS "wanted") = some (.ref wa) /\
  News hZ L sA.heap ((fa, listOf (fs : List Value).toArray nf) :: (ga, genObj gg.size nm qn) :: (la, listOf ls.toArray nl) :: (wa, listOf ws.toArray nw) :: dl) /\ (∀ p ∈ dlZ, p ∈ dl) /\
  (∀ q ∈ dl, plainO q.2 /\ q.1 ≠ fa /\ q.1 ≠ Lg) /\ Wants w dl fs ((ys.take j).map (Option.map dictD)) /\ Wants w dl ws wo /\ News hZ L sA.heap cond /\ (∀ q ∈ cond, q.1 ≠ fa) /\ (Lg, oL) ∈ cond /\
  ∀ s'', (∃ m, Fr hZ L s''.heap m) -> (∀ p ∈ cond, s''.heap.get? p.1 = some p.2) -> GoesC (model pg w) A.in1 (GenR hZ L Lg) (YieldP w hZ L ys Lg la (listOf ls.toArray nl)) (ys.length - (j + 1)) gs (.send .none) s'') -> R (some v) sA) :
  wpC (model pg w) A (pyNext (.ref ga)) R E s := by
 obtain ⟨hle, m, fs, nf, dl, cond, gs, oL0, ⟨h0, t0, rfl⟩, F, e1, e2, N, hd0, hdl, hW1, hW2, NC, hcf, hoL0, hres⟩ := hI
 obtain ⟨p, loose, mean, mg, mb, AA, baseA, outerA, BA, TT, hAA⟩ := a.ex
 have hgs : (gg.push gs)[gg.size]? = some gs := Array.getElem?_push_size
 have hga := (N _ (.tail _ (.head _))).1
 refine wpC_pyNext_gen (P := EndP hZ L Lg) (Y := YieldP w hZ L ys Lg la (listOf ls.toArray nl)) (n := ys.length - j) a.hh (TT.nolimit.keeps F.keep) (by have := a.dp; omega) ⟨_, nm, qn, hga, rfl, rfl, rfl⟩ hgs (hres _ ⟨m, F⟩ fun p hp => (NC p hp).1) (fun v sA gs' hY => ?_) fun sA hP h' hk => ?_
 ·obtain ⟨o, led, hy, kp, NY, hyl, hpl, I, oL, oI, hoL, hoI, hI0, hIL, hpI, hr2⟩ := hY
  have F1 := kept_fr kp F
  have N1 := kept_news kp N (base_plain hgl hll hwl hfl hdl)
  obtain ⟨h1, t1, rfl⟩ := kp.eq
  have hIf : I ≠ fa := fun e => hpI (by
   have h2 : h1.get? I = some oI := hoI
   rw [e, (N1 _ (.head _)).1] at h2
   rw [<- Option.some.inj h2]; exact lst_plain)
  have hla1 := (N1 (la, _) (.tail _ (.tail _ (.head _)))).1
  rcases Nat.eq_zero_or_pos (ys.length - j) with hz | hz
  ·exact absurd (hr2 _ ⟨m, F1⟩ hoL hoI hla1) (by rw [hz]; exact id)
  ·obtain ⟨n, hn⟩ : ∃ n, ys.length - j = n + 1 := ⟨ys.length - j - 1, by omega⟩
   rw [hn] at hy hr2
   have hjn : ys.length - 1 - (n + 1 - 1) = j := by omega
   rw [hjn] at hy
   refine turn v _ o led (by omega) hy hyl NY hpl ⟨m, fs, nf, dl, [(Lg, oL), (I, oI), (la, listOf ls.toArray nl)], gs', oL, ⟨h1, t1, ?_⟩, F1, e1, e2, N1, hd0, hdl, hW1, hW2, fun q hq => ?_, fun q hq => ?_, .head _, fun s'' hF hc => ?_⟩
   ·unfold Shared.setGen
    simp only [push_set]
   ·rcases zC.mp hq with rfl | hq
    ·exact ⟨hoL, hLg.2, hLg.1⟩
    ·rcases zC.mp hq with rfl | hq
     ·exact ⟨hoI, hIL, hI0⟩
     ·rw [zS.mp hq]
      exact N1 _ (.tail _ (.tail _ (.head _)))
   ·rcases zC.mp hq with rfl | hq
    ·exact hfl.symm
    ·rcases zC.mp hq with rfl | hq
     ·exact hIf
     ·rw [zS.mp hq]; exact hfL.symm
   ·rw [show ys.length - (j + 1) = n by omega]
    exact hr2 s'' hF (hc _ (.head _)) (hc _ (.tail _ (.head _))) (hc _ (.tail _ (.tail _ (.head _))))
 ·obtain ⟨hz, kp⟩ := hP
  have F1 := kept_fr kp F
  have N1 := kept_news kp N (base_plain hgl hll hwl hfl hdl)
  obtain ⟨h1, t1, rfl⟩ := kp.eq
  have hj : ys.take j = ys := List.take_of_length_le (by omega)
  rw [hj] at hW1
  refine end_ _ m fs nf dl ⟨h', t1, ?_⟩ ⟨F1.ns.keeps hk, fun b o e => hk _ _ (F1.keep b o e), F1.above⟩ e1 e2 (fun q hq => ⟨hk _ _ (N1 q hq).1, (N1 q hq).2⟩) hd0 hW1 hW2
  unfold Shared.setGen
  simp only [push_set]
theorem st_appendH {env : Env} {e eAZ : Expr} {pA pB pos : Pos} {rest : List Stmt} {RN : Value -> List (Addr × Obj) -> Prop} {pl : Sem Bool} {l : Addr} {its : List Value} {n : Nat} {news : List (Addr × Obj)} (F : Fr hZ L s.heap m) (N : News hZ L s.heap ((l, listOf its.toArray n) :: news)) (ho : ∀ h, Fr hZ L h m -> Ev (model pg w) A env h eAZ (· = .ref l)) (he : EvN (model pg w) A env hZ L m ((l, listOf its.toArray n) :: news) e RN)
  (ha : ∀ q ∈ news, q.1 ≠ l) (hz : its.length <= 999999)
  (hr : ∀ v new h' tk, RN v new -> (∀ q ∈ (l, listOf its.toArray n) :: news, ∀ x ∈ new, q.1 ≠ x.1) -> Fr hZ L h' m -> News hZ L h' ((l, listOf (its ++ [v]).toArray (n + 1)) :: (new ++ news)) -> wpAny (model pg w) A (execs rest env) Q E (St s h' tk))
  (hs : autoParam (starEach [e] env = (false, eval e env) :: starEach [] env) tA0) (hnn : autoParam (((backTo pB (starEach [] env)).any fun x => x.1) = false) tA0) (hi : autoParam (interactive env = false) tA0) (hsw : autoParam (swapsWith (.Call (.Attribute eAZ (oS "append") pA) [e] [] pB) none pos.line env = pure false) tA0)
  (hc : autoParam (eval (.Call (.Attribute eAZ (oS "append") pA) [e] [] pB) env = (do
   let ov <- eval eAZ env
   standAt pA.atName
   let (f, first) <- holding [ov] (getMethod ov (oS "append") pl)
   callWith pB f first (backTo pB (starEach [e] env)) [])) tA0) : wpAny (model pg w) A (execs (.Expr (.Call (.Attribute eAZ (oS "append") pA) [e] [] pB) pos :: rest) env) Q E s := by
 refine wpAny_execs_cons (wpAny_Expr_any ?_ hi hsw)
 refine MethodCall_ (ho _ F s _ E rfl fun v tk hv => ?_) hc
 subst hv
 refine listMethod_K N (.head _) PySem.F.slot_list_append PySem.F.type_list_append ?_
 refine PyProof.Rows.callWith_method1 (spliced_more (he (Tk s tk) _ E F N fun v new h1 tk1 hv hl F1 N1 => spliced_none ?_) hs) hs hnn
 have N2 : News hZ L h1 ((l, listOf its.toArray n) :: (new ++ news)) := fun p hp => N1 p (by
  rcases zC.mp hp with rfl | hp
  ·exact zR _ (.head _)
  ·exact (zA.mp hp).elim (fun z => zL _ z) fun z => zR _ (.tail _ z))
 exact append_K (s := (St s h1 tk1)) F1 N2 (.head fun q hq => (zA.mp hq).elim (fun z => Ne.symm (hl _ (.head _) q z)) (ha q)) (fun h' F' N' => hr v new h' tk1 hv hl F' (by rw [List.push_toArray] at N'; exact N')) (by rw [List.size_toArray, sizeLine_eq]; omega)
noncomputable def readBody : List Stmt := (stP ((lawBody[7]?).getD (.Pass default))).1
theorem read_turn {EAZ EB EC : Value -> Shared -> Prop} {pk pv pt : Pos} {kk : Nat} {v : Value} {o : Option FD} {led dl cond : List (Addr × Obj)} {fs : List Value} {nf : Nat} {gs : GenState} {oL : Obj} (a : At w A (lawEnv L) hZ L 20 200) (hgl : ga ≠ Lg) (hfg : fa ≠ ga) (hfw : fa ≠ wa) (hfL : fa ≠ la) (hj : j < ys.length) (hy : ys[j]? = some o) (hyl : Yields w led v o) (NY : News hZ L s.heap led) (hpl : ∀ q ∈ led, plainO q.2 /\ q.1 ≠ Lg)
  (heq : ∃ h t, s = (Sg s0 h (gg.push gs) t)) (F : Fr hZ L s.heap m) (e1 : m (oS "found") = some (.ref fa)) (e2 : m (oS "wanted") = some (.ref wa)) (N : News hZ L s.heap ((fa, listOf fs.toArray nf) :: (ga, genObj gg.size nm qn) :: (la, listOf ls.toArray nl) :: (wa, listOf ws.toArray nw) :: dl)) (hd0 : ∀ p ∈ dlZ, p ∈ dl) (hdl : ∀ q ∈ dl, plainO q.2 /\ q.1 ≠ fa /\ q.1 ≠ Lg) (hW1 : Wants w dl fs ((ys.take j).map (Option.map dictD))) (hW2 : Wants w dl ws wo)
  (NC : News hZ L s.heap cond) (hcf : ∀ q ∈ cond, q.1 ≠ fa) (hoL : (Lg, oL) ∈ cond)
  (hres : ∀ s'', (∃ m, Fr hZ L s''.heap m) -> (∀ p ∈ cond, s''.heap.get? p.1 = some p.2) -> GoesC (model pg w) A.in1 (GenR hZ L Lg) (YieldP w hZ L ys Lg la (listOf ls.toArray nl)) (ys.length - (j + 1)) gs (.send .none) s'')
  (hD : ∀ D, o = some D -> DictOk D /\ NoLst D) (hz : ys.length <= 999) :
  wpAny (model pg w) A (letOwnedTupleGo (.Tuple [.Name (oS "message") pk, .Name (oS "fault") pv] kk pt) (.ref ga) v) (fun _ sA => wpAny (model pg w) A (assign (.Tuple [.Name (oS "message") pk, .Name (oS "fault") pv] kk pt) (lawEnv L) v) (fun _ sB =>
   wpC (model pg w) A (execs readBody (lawEnv L)) (fun f sC => f = .next /\ RI w A hZ L Lg fa ga la wa ls nl ws nw gg dlZ nm qn ys wo s0 (j + 1) sC) EC sB) EB sA) EAZ s := by
 obtain ⟨t, v1, v2, n, rfl, htm, hcase⟩ := hyl
 obtain ⟨hh, tt, rfl⟩ := heq
 refine letOwned_gen (N _ (.tail _ (.head _))).1 ?_
 have hf1 : ∀ q ∈ led, q.1 = fa -> q.2.cls = .type "list" := fun q hq e => by
  have h1 := (NY q hq).1
  rw [e, (N _ (.head _)).1] at h1
  exact Option.some.inj h1 ▸ rfl
 have hlen : fs.length <= 999 := by have := hW1.length; rw [List.length_map, List.length_take] at this; omega
 have htake : (ys.take (j + 1)).map (Option.map dictD) = (ys.take j).map (Option.map dictD) ++ [o.map dictD] := by rw [List.take_add_one, hy, List.map_append]; rfl
 -- the ledger of the turn
 have N1 : News hZ L hh ((fa, listOf fs.toArray nf) :: ((ga, genObj gg.size nm qn) :: (la, listOf ls.toArray nl) :: (wa, listOf ws.toArray nw) :: (dl ++ (led.filter (fun q => !(q.1 == fa)) ++ cond)))) := fun q hq => by
  rcases zC.mp hq with rfl | hq
  ·exact N _ (.head _)
  ·rcases zC.mp hq with rfl | hq
   ·exact N _ (.tail _ (.head _))
   ·rcases zC.mp hq with rfl | hq
    ·exact N _ (.tail _ (.tail _ (.head _)))
    ·rcases zC.mp hq with rfl | hq
     ·exact N _ (.tail _ (.tail _ (.tail _ (.head _))))
     ·rcases zA.mp hq with hq | hq
      ·exact N _ (.tail _ (.tail _ (.tail _ (.tail _ hq))))
      ·exact (zA.mp hq).elim (fun z => NY q (List.mem_filter.mp z).1) fun z => NC q z
 have hne : ∀ q ∈ (ga, genObj gg.size nm qn) :: (la, listOf ls.toArray nl) :: (wa, listOf ws.toArray nw) :: (dl ++ (led.filter (fun q => !(q.1 == fa)) ++ cond)), q.1 ≠ fa := fun q hq => by
  rcases zC.mp hq with rfl | hq
  ·exact hfg.symm
  ·rcases zC.mp hq with rfl | hq
   ·exact hfL.symm
   ·rcases zC.mp hq with rfl | hq
    ·exact hfw.symm
    ·rcases zA.mp hq with hq | hq
     ·exact (hdl q hq).2.1
     ·refine (zA.mp hq).elim (fun z => ?_) (hcf q)
      have := (List.mem_filter.mp z).2
      intro e; rw [e] at this; simp at this
 refine pair_store (s := (Sg s0 hh (gg.push gs) tt)) a.hh F N1 ⟨_, (NY _ htm).1, rfl, n, rfl⟩ (by rfl) (by rfl) (by rfl) fun h2 tk2 F2 N2 => ?_
 have fin : ∀ (h3 : Heap) (tk3 : Nat) (v : Value) (new : List (Addr × Obj)) (m3 : Str -> Option Value), Fr hZ L h3 m3 -> m3 (oS "found") = some (.ref fa) -> m3 (oS "wanted") = some (.ref wa) -> (∀ x ∈ new, x.1 ≠ fa /\ x.1 ≠ Lg) -> WantV w (new ++ led.filter (fun q => !(q.1 == fa))) v (o.map dictD) ->
   News hZ L h3 ((fa, listOf (fs ++ [v]).toArray (nf + 1)) :: (new ++ ((ga, genObj gg.size nm qn) :: (la, listOf ls.toArray nl) :: (wa, listOf ws.toArray nw) :: (dl ++ (led.filter (fun q => !(q.1 == fa)) ++ cond))))) ->
   RI w A hZ L Lg fa ga la wa ls nl ws nw gg dlZ nm qn ys wo s0 (j + 1) (Sg s0 h3 (gg.push gs) tk3) := by
  intro h3 tk3 v new m3 F3 f1 f2 hnew hv N3
  refine ⟨hj, m3, fs ++ [v], nf + 1, (new ++ led.filter (fun q => !(q.1 == fa))).filter plB ++ dl, cond, gs, oL, ⟨h3, tk3, rfl⟩, F3, f1, f2, fun q hq => N3 q ?_, fun p hp => zR _ (hd0 p hp), fun q hq => ?_, ?_, hW2.mono fun p hp => zR _ hp, fun q hq => N3 q (.tail _ (zR _ (.tail _ (.tail _ (.tail _ (zR _ (zR _ hq))))))), hcf, hoL, hres⟩
  ·rcases zC.mp hq with rfl | hq
   ·exact .head _
   ·refine .tail _ ?_
    rcases zC.mp hq with rfl | hq
    ·exact zR _ (.head _)
    ·rcases zC.mp hq with rfl | hq
     ·exact zR _ (.tail _ (.head _))
     ·rcases zC.mp hq with rfl | hq
      ·exact zR _ (.tail _ (.tail _ (.head _)))
      ·rcases zA.mp hq with hq | hq
       ·exact (zA.mp (List.mem_filter.mp hq).1).elim (fun z => zL _ z) fun z => zR _ (.tail _ (.tail _ (.tail _ (zR _ (zL _ z)))))
       ·exact zR _ (.tail _ (.tail _ (.tail _ (zL _ hq))))
  ·rcases zA.mp hq with hq | hq
   ·obtain ⟨h1, h2⟩ := List.mem_filter.mp hq
    refine ⟨plB_plain h2, ?_⟩
    rcases zA.mp h1 with h1 | h1
    ·exact hnew q h1
    ·refine ⟨fun e => ?_, (hpl q (List.mem_filter.mp h1).1).2⟩
     have := (List.mem_filter.mp h1).2
     rw [e] at this; simp at this
   ·exact hdl q hq
  ·rw [htake]
   refine (hW1.mono fun p hp => zR _ hp).snoc ?_
   have h2 := (Wants.cons hv .nil : Wants w _ [v] [o.map dictD]).filt
   cases h2 with
   | cons a _ => exact a.mono fun p hp => zL _ hp
 refine wpC_of ?_
 conv => enter [3, 1]; whnf
 refine st_if (b := v1 == .none) (EvT.isNone (Ev.nm F2 rfl)) (fun tk3 b1 => ?_) (fun tk3 b1 => ?_)
 ·cases o with
  | some D => obtain ⟨_, x, rfl, _⟩ := hcase; cases b1
  | none =>
   obtain ⟨rfl, x, t2, rfl⟩ := hcase
   refine st_if (EvT.isNone (Ev.nm F2 rfl)) (fun tk4 b2 => nomatch b2) (fun tk4 _ => st_nil ?_)
   refine st_appendH F2 N2 (fun h F => Ev.nm F (by exact e1)) (EvN.of fun h F N => Ev.none) hne (Nat.le_trans hlen (by decide)) ?_
   intro y81 y82 h5 tk5 y83 y84 F5 N5
   obtain ⟨rfl, rfl⟩ := y83
   exact st_nil (wpAny_execs_nil ⟨rfl, fin h5 tk5 .none [] _ F5 e1 e2 (fun x hx => nomatch hx) rfl N5⟩)
 ·cases o with
  | none => obtain ⟨rfl, _⟩ := hcase; cases b1
  | some D =>
   obtain ⟨rfl, x, rfl, hM⟩ := hcase
   obtain ⟨hd1, hd2⟩ := hD D rfl
   refine st_if (EvT.isNotNone (Ev.nm F2 rfl)) (fun tk4 b2 => nomatch b2) (fun tk4 _ => st_nil ?_)
   refine st_appendH F2 N2 (fun h F => Ev.nm F (by exact e1)) (EvN.dictP (D' := 19) (U' := 197) a (fun h F N => Ev.nm F rfl) (hM.avoid hd2 hf1) (fun p hp => .tail _ (.tail _ (.tail _ (.tail _ (zR _ (zL _ hp)))))) hd1) hne (Nat.le_trans hlen (by decide)) ?_
   intro y81 new h5 tk5 y82 hl5 F5 N5
   obtain ⟨d, rfl, hd⟩ := y82
   exact st_nil (wpAny_execs_nil ⟨rfl, fin h5 tk5 (.ref d) new _ F5 e1 e2 (fun x hx => ⟨Ne.symm (hl5 _ (.head _) x hx), Ne.symm (hl5 (Lg, oL) (.tail _ (.tail _ (.tail _ (.tail _ (zR _ (zR _ hoL)))))) x hx)⟩) ⟨d, rfl, hd⟩ N5⟩)
end
theorem no_kind (P : Params) : nsIn (KK P) 29 (oS "no_kind") = some Option.none := by with_unfolding_all rfl
theorem kname0 : kname 0 ≠ oS "no_kind" := by decide +kernel
theorem no_words : Txt.words (oS "no_kind note=1") = [oS "no_kind", oS "note=1"] := by decide +kernel
theorem no_args : ArgsOk [oS "note=1"] [(oS "note", .int 1)] := by
 refine .cons ⟨oS "1", by decide +kernel, by decide +kernel, by decide +kernel, by decide +kernel, ?_⟩ .nil
 unfold ParseOk
 rw [if_neg (by decide +kernel)]
 exact ⟨1, int_reads (n := 1) ⟨by decide, by decide⟩, by decide +kernel, rfl⟩
theorem no_kind_raises (w : World) (news : List (Addr × Obj)) (t : Tok) : GivesC w 427 4 12 [.str (oS "no_kind note=1") t] [] news "LookupError" :=
 parse_string_bad w news fun news t' => from_str_bad w news fun news t' =>
  ((str2msg_G w news (k := 0) (ty := oS "no_kind") (.inr no_kind) no_words (by decide +kernel) no_args (by decide)).bad no_kind fun r new h => absurd h.1.1.symm kname0).toC
section
variable {w : World} {A : Around} {L : Addr} {hZ : Heap} {m : Str -> Option Value} {r : List (Addr × Obj)} {s s0 : Shared} {Q : Flow -> Shared -> Prop} {E : Value -> Shared -> Prop} {la wa : Addr} {nl nw : Nat} {dlZ : List (Addr × Obj)} {ls ws : List Value} {xs : List Str} {os : List (Option (Option FD))} {wo : List (Option FD)}
theorem wpC_Expr {env : Env} {e : Expr} {pos : Pos} (h : wpC (model pg w) A (eval e env) (fun _ => Q .next) E s) (hi : autoParam (interactive env = false) tA0) (hs : autoParam (swapsWith e none pos.line env = pure false) tA0) : wpC (model pg w) A (exec (.Expr e pos) env) Q E s := by
 rw [exec_Expr env e pos hi hs]
 exact wpC_bindA (wpAny_standAt (wpC_bind (wpC_mono h (fun v s' h' => wpC_of (wpAny_dropValue h')) fun _ _ x => x)))
theorem law_tail {fa : Addr} {fs : List Value} {nf : Nat} {led dl : List (Addr × Obj)} {ys : List (Option FD)} (ax : AtX w A hZ (lawEnv L) [] hZ L 20 200) (F : Fr hZ L s.heap m) (e1 : m (oS "found") = some (.ref fa)) (e2 : m (oS "wanted") = some (.ref wa)) (N : News hZ L s.heap led) (hfa : (fa, listOf fs.toArray nf) ∈ led) (hwa : (wa, listOf ws.toArray nw) ∈ led) (hdl : ∀ p ∈ dl, p ∈ led) (hd0 : ∀ p ∈ dlZ, p ∈ led)
  (hW1 : Wants w dl fs (ys.map (Option.map dictD))) (hW2 : Wants w dl ws wo) (hsame : SameD ys wo) (hQ : ∀ h t, (∀ b o, hZ.get? b = some o -> h.get? b = some o) -> (∀ p ∈ dlZ, h.get? p.1 = some p.2) -> Q (.ret (.bool true)) (St s h t)) : wpC (model pg w) A (execs (lawBody.drop 8) (lawEnv L)) Q E s := by
 conv => enter [3, 1]; whnf
 have a := ax.at_
 have G := fun {h} {m} (F : Fr hZ L h m) => a.gl.keeps F.keep
 have hl : fs.length = ws.length := by rw [hW1.length, hW2.length, List.length_map, hsame.length]
 have hu := a.un
 refine st_ifC (b := false) (EvT.cmp (RA := (· = .ref fa)) (RB := (· = .ref wa)) (Ev.nm F e1) (Ev.nm F e2) fun s' Q' E' u v hh hu' hv hq => ?_) (fun b => nomatch b) fun _ tk => wpC_of (wpAny_execs_nil ?_)
 ·subst hu'
  subst hv
  have F' : Fr hZ L s'.heap m := hh ▸ F
  have N' : News hZ L s'.heap led := hh ▸ N
  refine list_neW hl (by omega) (N' _ hfa).1 (N' _ hwa).1 (fun j v u hv hu2 => ?_) (hq s'.toks)
  obtain ⟨o, ho, hv⟩ := hW1.at hv
  obtain ⟨o', ho', hu3⟩ := hW2.at hu2
  rw [List.getElem?_map] at ho
  cases hy : ys[j]? with
  | none => rw [hy] at ho; cases ho
  | some y =>
   rw [hy] at ho
   cases (Option.some.inj ho)
   obtain ⟨z, hz1, hz2⟩ := hsame.at hy
   rw [ho'] at hz1
   cases (Option.some.inj hz1)
   cases y with
   | none =>
    cases o' with
    | none => cases hv; cases hu3; exact eqW_none
    | some W => exact hz2.elim
   | some D =>
    cases o' with
    | none => exact hz2.elim
    | some W =>
     obtain ⟨d, rfl, hd⟩ := hv
     obtain ⟨d', rfl, hd'⟩ := hu3
     exact eqW_dict a F' N' (hd.mono hdl) (hd'.mono hdl) (by show A.units + 1 + 100 < cLine; omega) hz2.2.2
 dsimp only
 refine wpC_seq (st_assign F N Ev.bool ?_)
 rintro _ h1 tk1 rfl F1 N1
 refine wpAny_execs_nil ?_
 dsimp only
 refine wpC_cons (wpC_Try_except (wpC_cons (wpC_Expr (fn_raises (RL := fun vs => ∃ v, vs = [v] /\ IsS (oS "no_kind note=1") v) (ax.less (D' := 4) (U' := 12) (by decide) (by decide)) F1 N1 (fun h F N => Ev.glob (G F) (by k_is)) (by k_is) (fun h F N => EvL.one Ev.str) (fun vs hvs => by obtain ⟨_, rfl, u, rfl⟩ := hvs; exact no_kind_raises w _ _) (fun e9 h9 tk9 hR => ?_)))))
 refine caught_X (x := oS "LookupError") (ax.less (D' := 4) (U' := 12) (by decide) (by decide)) hR (fun q hq => (N1 q hq).2.2) (by k_is) PyProof.Rows.Boot.«LookupError» (by decide) PySem.F.isExc_LookupError PySem.F.notTuple_LookupError PySem.F.self_LookupError (fun h10 g10 tk10 E10 ax10 F10 N10 U10 => ?_)
 refine st_assign F10 N10 Ev.bool ?_
 rintro _ h11 tk11 rfl F11 N11
 refine st_nil ?_
 dsimp only
 refine wpC_of (st_ret (Ev.nm F11 rfl) ?_)
 rintro _ tk12 rfl
 exact hQ _ _ (fun b o e => F11.keep b o (ax10.bst b o e)) fun p hp => (N11 p (hd0 p hp)).1
theorem law_read (ax : AtX w A hZ (lawEnv L) [] hZ L 20 200) (F : Fr hZ L s.heap m) (N : News hZ L s.heap (OutL la wa ls nl ws nw r)) (e1 : m (oS "lines") = some (.ref la)) (e2 : m (oS "wanted") = some (.ref wa)) (hne : la ≠ wa) (hr : ∀ q ∈ r, q.1 ≠ la /\ q.1 ≠ wa) (hd0 : ∀ p ∈ dlZ, p ∈ r /\ plainO p.2) (hls : StrsAre ls xs) (hws : Wants w r ws wo)
  (hlen : os.length = xs.length) (hz : xs.length <= 999) (hxl : ∀ x ∈ xs, x.length <= 999999) (ho : ∀ (i : Nat) (x : Str) (o : Option (Option FD)), xs[i]? = some x -> os[i]? = some o -> LineOut w (stripped x) o) (hsame : SameD (os.filterMap id) wo)
  (hQ : ∀ h t, (∀ b o, hZ.get? b = some o -> h.get? b = some o) -> (∀ p ∈ dlZ, h.get? p.1 = some p.2) -> Q (.ret (.bool true)) (Sg s h (s.gens.push .finished) t)) :
  wpC (model pg w) A (execs (lawBody.drop 6) (lawEnv L)) Q E s := by
 conv => enter [3, 1]; whnf
 have a := ax.at_
 have hA : A.frames = some [lawEnv L] := ax.frx
 have G := fun {h} {m} (F : Fr hZ L h m) => a.gl.keeps F.keep
 have hwf : Wants w (r.filter plB) ws wo := hws.filt
 refine wpC_seq (st_assignN rfl F N (EvN.list (fun h F N => EvL.nil) (by rintro _ rfl; decide)) ?_)
 intro y81 y82 h1 tk1 y83 hl1 F1 N1
 obtain ⟨fa, _, rfl, rfl, rfl⟩ := y83
 refine wpAny_execs_nil ?_
 dsimp only
 have hfl : fa ≠ la := Ne.symm (hl1 _ (.head _) _ (.head _))
 have hfw : fa ≠ wa := Ne.symm (hl1 _ (.tail _ (.head _)) _ (.head _))
 have hfr : ∀ q ∈ r, q.1 ≠ fa := fun q hq => hl1 q (.tail _ (.tail _ hq)) _ (.head _)
 refine wpC_cons (wpC_For (Call_ ((Ev.glob (G F1) (by k_is) : Ev (model pg w) A (lawEnv L) h1 _ (· = .ref 434)) _ _ _ rfl fun v tk hv => ?_) (by rfl)) (fun _ => rfl))
 subst hv
 refine callWith_K a.K (by k_is) ((show EvL (model pg w) A (lawEnv L) h1 [_] (fun vs => ∃ v, vs = [v] /\ v = .ref la) from EvL.one (Ev.nm F1 (by exact e1))) _ _ _ _ rfl fun vs tk' hvs => ⟨a.K.keeps F1.keep, ?_⟩) (by rfl) (by rfl)
 obtain ⟨_, rfl, rfl⟩ := hvs
 refine stream_call w (D := 8) (U := 160) a hA F1 N1 hls hlen hz hxl ho (.tail _ (.head _)) fun Lg ga h2 tk2 nm qn oL c hLt hlg hlga hne2 F2 N2 hres => ?_
 have hgs : (s.gens.push (.fresh c))[s.gens.size]? = some (.fresh c) := Array.getElem?_push_size
 have n1 := N2 _ (.head _)
 have n2 := N2 _ (.tail _ (.head _))
 refine wpAny_pyIter_gen (g := s.gens.size) ⟨_, nm, qn, n2.1, rfl, rfl, rfl⟩ ?_
 have hgl : ga ≠ Lg := Ne.symm hne2
 have hll : la ≠ Lg := hlg _ (.tail _ (.head _))
 have hwl : wa ≠ Lg := hlg _ (.tail _ (.tail _ (.head _)))
 have hfLg : fa ≠ Lg := hlg _ (.head _)
 have hfga : fa ≠ ga := hlga _ (.head _)
 have hyz : (os.filterMap id).length <= 999 := Nat.le_trans (List.length_filterMap_le _ _) (by omega)
 refine codeC_forT (fun n s' => ∃ j, n = (os.filterMap id).length - j /\ RI w A hZ L Lg fa ga la wa ls nl ws nw s.gens dlZ nm qn (os.filterMap id) wo s j s') ?_ _ ⟨0, rfl, Nat.zero_le _, _, [], 0, r.filter plB ++ dlZ, [(Lg, oL), (la, listOf ls.toArray nl)], .fresh c, oL, ⟨h2, tk2, rfl⟩, F2, rfl, e2, fun q hq => ?_, fun p hp => zR _ hp, fun q hq => ?_, .nil, hwf.mono fun p hp => zL _ hp, fun q hq => ?_, fun q hq => ?_, .head _, fun s'' hF hc => ?_⟩
 ·rintro n s3 ⟨j, rfl, hRI⟩
  refine read_next a hgl hll hwl hfLg ⟨n1.2.2, n1.2.1⟩ hfl hRI (fun sA m4 fs nf dl heq F4 f1 f2 N4 hd4 hW1 hW2 => ?_) (fun v sA o led hj hy hyl NY hpl hx => ?_)
  ·refine wpAny_execs_nil ?_
   obtain ⟨h4, t4, rfl⟩ := heq
   exact law_tail (dlZ := dlZ) (fa := fa) (nf := nf) ax F4 f1 f2 N4 (.head _) (.tail _ (.tail _ (.tail _ (.head _)))) (fun p hp => .tail _ (.tail _ (.tail _ (.tail _ hp)))) (fun p hp => .tail _ (.tail _ (.tail _ (.tail _ (hd4 p hp))))) hW1 hW2 hsame fun h t k1 k2 => hQ h t k1 k2
  ·obtain ⟨m4, fs, nf, dl, cond, gs, oL4, heq, F4, f1, f2, N4, hd4, hdl, hW1, hW2, NC, hcf, hoL4, hres4⟩ := hx
   exact wpAny_mono (read_turn a hgl hfga hfw hfl hj hy hyl NY hpl heq F4 f1 f2 N4 hd4 hdl hW1 hW2 NC hcf hoL4 hres4 (fun D e => by
    obtain ⟨z, hz1, hz2⟩ := hsame.at hy
    subst e
    cases z with
    | none => exact hz2.elim
    | some W => exact ⟨hz2.1, hz2.2.1⟩) hyz) (fun _ s5 h5 => wpAny_mono h5 (fun _ s6 h6 => wpC_mono h6 (fun f s7 h7 => by
     obtain ⟨rfl, h7⟩ := h7
     exact ⟨(os.filterMap id).length - (j + 1), by omega, j + 1, rfl, h7⟩) fun _ _ x => x) fun _ _ x => x) fun _ _ x => x
 ·rcases zC.mp hq with rfl | hq
  ·exact N2 _ (.tail _ (.tail _ (.head _)))
  ·rcases zC.mp hq with rfl | hq
   ·exact n2
   ·rcases zC.mp hq with rfl | hq
    ·exact N2 _ (.tail _ (.tail _ (.tail _ (.head _))))
    ·rcases zC.mp hq with rfl | hq
     ·exact N2 _ (.tail _ (.tail _ (.tail _ (.tail _ (.head _)))))
     ·exact N2 _ (.tail _ (.tail _ (.tail _ (.tail _ (.tail _ ((zA.mp hq).elim (fun z => (List.mem_filter.mp z).1) fun z => (hd0 q z).1))))))
 ·rcases zA.mp hq with hq | hq
  ·obtain ⟨z1, z2⟩ := List.mem_filter.mp hq
   exact ⟨plB_plain z2, hfr q z1, hlg q (.tail _ (.tail _ (.tail _ z1)))⟩
  ·exact ⟨(hd0 q hq).2, hfr q (hd0 q hq).1, hlg q (.tail _ (.tail _ (.tail _ (hd0 q hq).1)))⟩
 ·rcases zC.mp hq with rfl | hq
  ·exact n1
  ·rw [zS.mp hq]
   exact N2 _ (.tail _ (.tail _ (.tail _ (.head _))))
 ·rcases zC.mp hq with rfl | hq
  ·exact hfLg.symm
  ·rw [zS.mp hq]; exact hfl.symm
 ·exact hres s'' hF (hc _ (.head _)) (hc _ (.tail _ (.head _)))
end
theorem wpC_append {M : Model} {A : Around} {E : Value -> Shared -> Prop} {s : Shared} {env : Env} {Q : Flow -> Shared -> Prop} {lA lB : List Stmt} (h : wpAny M A (execs lA env) (fun f s' => match f with | .next => wpC M A (execs lB env) Q E s' | f => Q f s') E s) : wpC M A (execs (lA ++ lB) env) Q E s := fun Γ p hΓ hc => by
 have key : ∀ (lA : List Stmt) (p : Pos) (s : Shared), Sem.wp M Γ (execs lA env) (fun f _ s' => match f with | .next => wpC M A (execs lB env) Q E s' | f => Q f s') (fun e _ s' => E e s') p s -> Sem.wp M Γ (execs (lA ++ lB) env) (fun f _ s' => Q f s') (fun e _ s' => E e s') p s := by
  intro lA
  induction lA with
  | nil => intro p s h; exact h Γ p hΓ hc
  | cons st r ih =>
   intro p s h
   rw [List.cons_append, execs_cons, Sem.wp_bind'] at *
   refine Sem.wp_mono M Γ _ (fun f p' s' h' => ?_) (fun _ _ _ h' => h') _ _ h
   cases f <;> first | exact ih p' s' h' | exact h'
 exact key lA p s (h Γ p hΓ)
theorem body_parts : lawBody = lawBody.take 2 ++ ((lawBody.drop 2).take 4 ++ lawBody.drop 6) := by
 have h : lawBody.drop 6 = (lawBody.drop 2).drop 4 := by rw [List.drop_drop]
 rw [h, List.take_append_drop, List.take_append_drop]
noncomputable def StreamOk (w : World) : Prop := ∀ (nums : List Int) (q : Nat), q <= 6 -> ∃ os : List (Option (Option FD)), os.length = (linesOf nums q).length /\ (∀ x ∈ linesOf nums q, x.length <= 999999) /\
 (∀ (i : Nat) (x : Str) (o : Option (Option FD)), (linesOf nums q)[i]? = some x -> os[i]? = some o -> LineOut w (stripped x) o) /\ SameD (os.filterMap id) (wantedOf nums q)
theorem law_body {w : World} {A : Around} {L sa : Addr} {hZ : Heap} {m : Str -> Option Value} {s : Shared} {Q : Flow -> Shared -> Prop} {o : Obj} {svs : List Value} {ns : List Int} (hT : ∀ n0 n1 n2 n3, TurnOk n0 n1 n2 n3) (hS : StreamOk w) (ax : AtX w A hZ (lawEnv L) [] hZ L 20 200) (F : Fr hZ L s.heap m) (N : News hZ L s.heap [(227, o)]) (ht : Tab o) (hb : AllBare s.gens)
  (es : m (oS "script") = some (.ref sa)) (hsl : ∀ {h m}, Fr hZ L h m -> h.IsList sa svs.toArray) (hz : svs.length <= 999) (hi : IntsAre svs ns)
  (hQ : ∀ h g t o', (∀ b o, hZ.get? b = some o -> h.get? b = some o) -> h.get? 227 = some o' -> Tab o' -> AllBare g -> Q (.ret (.bool true)) (Sg s h g t)) : wpC (model pg w) A (execs lawBody (lawEnv L)) Q Never s := by
 have a := ax.at_
 rw [body_parts]
 refine wpC_append (law_nums a passes_never (s0 := s) ⟨⟨_, _, _, rfl⟩, ⟨o, F, N, ht, hb⟩, (fun q hq => nomatch hq), (fun q hq => nomatch hq)⟩ es hsl hz hi fun m1 s1 na nvs nn nums K e1 hin hlen h4 => ?_)
 refine wpC_append (law_lines a passes_never hT K e1 hin hlen h4 fun m2 s2 la wa ls nl ws nw r K f1 f2 hne hr hls hws => ?_)
 obtain ⟨⟨h2, g2, t2, rfl⟩, ⟨o2, F2, N2, ht2, hb2⟩, ne2, _⟩ := id K
 obtain ⟨os, hlen2, hxl, ho, hsame⟩ := hS nums (nums.length / 4) (by omega)
 have hla : la ≠ 227 := ne2 (la, _) (.head _)
 have hwa : wa ≠ 227 := ne2 (wa, _) (.tail _ (.head _))
 refine law_read (dlZ := [(227, o2)]) (nl := nl) (nw := nw) (r := (227, o2) :: r) ax F2 (fun q hq => N2 q ?_) f1 f2 hne (fun q hq => ?_) (fun q hq => ?_) hls (hws.mono fun p hp => .tail _ hp) hlen2 ?_ hxl ho hsame fun h t k1 k2 => hQ h _ t o2 k1 (k2 _ (.head _)) ht2 (hb2.push rfl)
 ·rcases zC.mp hq with rfl | hq
  ·exact .tail _ (.head _)
  ·rcases zC.mp hq with rfl | hq
   ·exact .tail _ (.tail _ (.head _))
   ·rcases zC.mp hq with rfl | hq
    ·exact .head _
    ·exact .tail _ (.tail _ (.tail _ hq))
 ·rcases zC.mp hq with rfl | hq
  ·exact ⟨hla.symm, hwa.symm⟩
  ·exact ⟨(hr q hq).1, (hr q hq).2.1⟩
 ·rw [zS.mp hq]
  exact ⟨.head _, ht2.plain⟩
 ·have := linesOf_len nums (nums.length / 4); omega
noncomputable abbrev topCtx : Ctx := ⟨.builtin "claim.caller" {}, none, none, [], none⟩
noncomputable def wpT {α : Type} (M : Model) (t : Sem α) (Q : α -> Shared -> Prop) (E : Value -> Shared -> Prop) (s : Shared) : Prop := ∀ p, Sem.wp M topCtx t (fun a _ s' => Q a s') (fun e _ s' => E e s') p s
theorem wpT_of {α : Type} {M : Model} {t : Sem α} {Q : α -> Shared -> Prop} {E : Value -> Shared -> Prop} {s : Shared} (h : wpAny M callerA t Q E s) : wpT M t Q E s := fun p => h _ p caller_in
theorem wpT_bind {α β : Type} {M : Model} {m : Sem α} {f : α -> Sem β} {Q : β -> Shared -> Prop} {E : Value -> Shared -> Prop} {s : Shared} (h : wpT M m (fun a s' => wpT M (f a) Q E s') E s) : wpT M (m >>= f) Q E s := fun p => by
 rw [Sem.wp_bind']
 exact Sem.wp_mono M _ m (fun a p' s' h' => h' p') (fun _ _ _ h' => h') p s (h p)
theorem wpT_mono {α : Type} {M : Model} {t : Sem α} {Q Q' : α -> Shared -> Prop} {E E' : Value -> Shared -> Prop} {s : Shared} (h : wpT M t Q E s) (hQ : ∀ a s, Q a s -> Q' a s) (hE : ∀ e s, E e s -> E' e s) : wpT M t Q' E' s :=
 fun p => Sem.wp_mono M _ t (fun a _ s => hQ a s) (fun e _ s => hE e s) p s (h p)
theorem wpT_call {M : Model} {f : Value} {pos : List Value} {Q : Value -> Shared -> Prop} {E : Value -> Shared -> Prop} {s : Shared} (hc : codeC M callerA (.call f ⟨pos, []⟩) (fun r s' => match r with | .ok (.ret v) => Q v s' | .ok _ => False | .error e => E e s') s) : wpT M (PySem.call f pos) Q E s := fun p => by
 show Sem.wp M topCtx (runValue _) _ _ p s
 rw [Sem.wp_runValue]
 exact hc _ p rfl (caller_in.enter _ none p (by intro x; cases x)) (by rfl)
theorem callFrom_T {c : ClaimW} {tree : List Value -> Sem Fin} {w : World} {s : Shared} {free : Addr -> Prop} {gens : Prop} {kept : Heap -> Prop} (hz : s.asleep) (hgens : s.gens = #[])
  (spec : ∀ args, c.pre args = true -> WData.layableAll args = true -> ∀ ord : List DictEntry -> List DictEntry, (∀ l, (ord l).Perm l) -> ∃ vs sA, layAllW c.records (classAt s.heap) w.params ord args s = some (vs, sA) /\
    wpT (model c.prog w) (tree vs) (fun fin s' => ∃ f, fin = .done f /\ c.Ends s args vs sA (.ok f) s' /\ s'.os = s.os /\ AllBare s'.gens /\ kept s'.heap) (fun e s' => c.Ends s args vs sA (.error e) s' /\ s'.os = s.os /\ AllBare s'.gens /\ kept s'.heap) sA) :
  c.CallFrom (fun vs => ⟨tree vs, .builtin "claim.caller" {}, default, []⟩) w free gens kept s := fun args hpre hlay ord hord => by
 apply ab0; intro T9 e9
 obtain ⟨vs, sA, hlaid, hcode⟩ := spec args hpre hlay ord hord
 have rest := layAllW_rest _ _ _ hlaid
 obtain ⟨k, r, sa, sb, hsched, hrun, hfo, hends, hos, hkp⟩ := wp_halts_full (M := model c.prog w) (c := .builtin "claim.caller" {}) (R := fun r s' => c.Ends s args vs sA r s' /\ s'.os = s.os /\ kept s'.heap) (p := default) (Shared.asleep_of_life rest.2.2.2 hz)
  (Sem.wp_mono _ _ _ (fun fin _ s' h' => by
   obtain ⟨f, rfl, h1, h2, h3, h4⟩ := h'
   exact ⟨⟨h1, h2, h4⟩, leftWithCleanup_false_of_bare h3⟩) (fun e _ s' ⟨h1, h2, h3, h4⟩ => ⟨⟨h1, h2, h4⟩, leftWithCleanup_false_of_bare h3⟩) default sA (hcode default))
 obtain ⟨eh, _, _, eo, _⟩ := Shared.forget_eq hfo
 have hends := hends.congr eh
 rw [<- eo] at hos
 have hlife : sb.heap.life = s.heap.life := (runN_life _ _ _ hrun).trans rest.2.2.2
 subst e9
 refine ⟨vs, sA, hlaid, k, _, sb, hsched, ?_, (fun _ i x hx => by rw [hgens] at hx; simp at hx), by rw [eh]; exact hkp, by rw [hlife], Shared.rest_eq hos⟩
 apply ab1 r; intro T9 e9
 rcases hends with ⟨v, rfl, d1, d2, d3, d4, d5⟩ | ⟨e, ob, cls, rfl, d1, d2, d3, d4, d5⟩ <;> subst e9
 ·exact .inl ⟨v, rfl, d1, d2, d3, fun b o y _ => d4 b o y, d5⟩
 ·exact .inr ⟨e, ob, cls, rfl, d1, d2, d3, d4, fun b o y _ => d5 b o y⟩
noncomputable abbrev WalkT (q : Program) (loose : List Str) (XP : (Str -> Option Value) -> Heap -> Prop) (YP : World -> Heap -> Prop) (r : RowW) (d : DefRec) : Prop :=
 ∀ (w : World) (sZ sA : Shared) (mg mb : Str -> Option Value), Ground q loose r.records XP w sZ mg mb sA.heap -> YP w sA.heap -> ∀ a : Addr, mg d.name = some (.ref a) -> sA.gens = #[] ->
  ∀ (args : List WData) (vals : List Value) (as : List Addr), r.claim.pre args = true -> WData.layableAll args = true -> ReadsAllW r.records (classAt sZ.heap) sA.heap vals args as -> WellAll w.params sA.heap vals args -> (∀ a ∈ as, (a == sysModules) = false) ->
   codeC (model r.prog w) callerA (.call (.ref a) ⟨vals, []⟩) (GoodWG r.claim (classAt sZ.heap) (ExcName.means sZ.heap) args sA) sA
theorem PySem.W.holds_open {r : OpenRow} {q : Program} {loose : List Str} {Xt : Shared -> Bool} {XP : (Str -> Option Value) -> Heap -> Prop} {α : Type} {Yf : Shared -> α} {Ya : World -> α} {YP : World -> Heap -> Prop} {d : DefRec} {kwd : List (Str × Expr)} {N : Nat}
  (left : LeftO r.prog q loose Xt Yf Ya N) (hY : ∀ w s, Yf s = Ya w -> YP w s.heap) (hYk : ∀ w h h', YP w h -> (∀ b o, h.get? b = some o -> h'.get? b = some o) -> YP w h')
  (hX : ∀ s, Xt s = true -> XP (s.heap.nsMap mainGlobals) s.heap) (hXk : ∀ mg h h', XP mg h -> (∀ b o, h.get? b = some o -> h'.get? b = some o) -> XP mg h')
  (hdef : defOf q r.name = some (d, kwd)) (hp : r.prog.theDef r.name = some (d.params, d.body, d.scope)) (hk : kwWritten? d.params.kwonlyargs d.params.kw_defaults = some kwd) (hRf : ∀ s, Xt s = true -> RecFacts r.records s.heap) (hwr : (!r.writes || r.records.isEmpty) = true)
  (k1 : r.wellSaid = true) (ok : (chainsOk q && opensWell r.prog && (frees r.toRowW && r.within.isEmpty)) = true) (hb : r.prog.bare) (hw : r.toRowW.promised)
  (call : WalkT q loose XP YP r.toRowW d) : r.Holds := by
 obtain ⟨ok, k5⟩ := Bool.and_eq_true_iff.mp ok
 obtain ⟨hch, o1⟩ := Bool.and_eq_true_iff.mp ok
 obtain ⟨k5, k6⟩ := Bool.and_eq_true_iff.mp k5
 obtain ⟨hsame, hu, ha, hap, hm⟩ := frees_parts k5
 refine ⟨k1, hw, ⟨hb, o1, by show r.makers.map _ = []; rw [hm]; rfl⟩, hw.witness, fun w => ⟨(left.behind hX hch w).1, fun s' hs' => ?_⟩⟩
 apply ab0; intro T9 e9
 obtain ⟨sZ, hf, hg0, s, hT, hz, hgens, hg, G00, y⟩ := (left.behind (XP := fun mg h => XP mg h /\ RecFacts r.records h) (fun s hs => ⟨hX s hs, hRf s hs⟩) hch w).2 s' hs'
 have G0 : Ground q loose [] XP w s (s.heap.nsMap mainGlobals) (s.heap.nsMap builtinsNs) s.heap := ⟨G00.T, G00.B, G00.D, G00.TE, G00.TD, G00.W, G00.X.1, G00.cls, G00.has, G00.apart, G00.once, G00.K⟩
 have RF := G00.X.2
 have hgens : s.gens = #[] := Array.eq_empty_of_size_eq_zero (beq_iff_eq.mp hgens)
 have G : Ground q loose r.records XP w s _ _ s.heap := RF.ground G0
 subst e9
 refine ⟨sZ, hf, hg0, s, hT, fun n hn => ?_, RF.1, RF.2.1, callFrom_T (c := r.claim) hz hgens fun args hpre hlay ord hord => ?_⟩
 ·obtain rfl : n = r.name := by split at hn <;> simp_all
  exact pinned_of_view hg G0 hdef hp hk
 apply ab0; intro T9 e9
 obtain ⟨⟨vs, sA⟩, hlaid⟩ := Option.isSome_iff_exists.mp (layAllW_isSome (P := w.params) (ord := ord) G.has args r.args s (pre_splitW hpre).1)
 have keeps := layAllW_keeps _ _ _ hlaid
 have rest := layAllW_rest _ _ _ hlaid
 obtain ⟨as, hrd, hin, hold⟩ := reads_layAllW hord _ _ _ hlaid hlay sA.heap (fun _ _ e => e)
 have L : Laid r.records w s sA args vs as := ⟨⟨ord, hord, hlaid⟩, hrd, hin, hold, keeps, rest.1.trans hgens, rest.2.2.1⟩
 have GA := G.keeps hXk keeps
 obtain ⟨a, _, _, _, _, _, _, h1, _⟩ := GA.fn hdef
 have h1' : s.heap.nsMap mainGlobals d.name = some (.ref a) := defOf_name hdef ▸ h1
 have hi := ident_freeW hu ha hap
 have hwi : r.claim.within = [] := List.isEmpty_iff.mp k6
 subst e9
 refine ⟨vs, sA, hlaid, ?_⟩
 have walk := call w s sA _ _ GA (hYk _ _ _ (hY w s y) keeps) a h1' L.gens args vs as hpre hlay L.reads L.well (L.low G.low)
 refine wpT_bind (wpT_of (wpAny_nsGet GA.T.g ?_))
 rw [show s.heap.nsMap mainGlobals r.name = some (.ref a) from h1]
 refine wpT_bind (wpT_mono (wpT_call (Q := fun v s' => GoodWG r.claim (classAt s.heap) (ExcName.means s.heap) args sA (.ok (.ret v)) s') (E := fun e s' => GoodWG r.claim (classAt s.heap) (ExcName.means s.heap) args sA (.error e) s') (codeC_mono walk fun res s' g => by
  rcases g.1 with ⟨v, _, _, rfl, _⟩ | ⟨e, _, _, rfl, _⟩ <;> exact g)) (fun v s' g => wpT_of (wpAny_pure ?_)) fun e s' g => ?_)
 ·have z := g.laid (c := r.claim) hsame hwi hi L
  exact ⟨_, rfl, z.1, z.2.1, z.2.2, fun q => ⟨namesKept_of hT hg r.keeps keeps g.2.1.old, noTable hwr q⟩⟩
 ·have z := g.laid (c := r.claim) hsame hwi hi L
  exact ⟨z.1, z.2.1, z.2.2, fun q => ⟨namesKept_of hT hg r.keeps keeps g.2.1.old, noTable hwr q⟩⟩
theorem tabs_at {P : Params} {h : Heap} (KX : (KK P).In h) (KT : h.get? 227 = some (tabObj #[])) : TabsAt [(231, 227)] h := fun q hq => by
 rw [zS.mp hq]
 exact ⟨codeHd_of_K KX (by with_unfolding_all rfl), KT⟩
theorem kk_noTabs (P : Params) : noTabs (KK P) = true := by with_unfolding_all rfl
theorem law_enters {w : World} {sA : Shared} {R : Result -> Shared -> Prop} {sa : Addr} {svs : List Value} {ns : List Int} {p : Program} {loose : List Str} {mean : ExcName -> Option Value} {mg mb : Str -> Option Value} (hT : ∀ n0 n1 n2 n3, TurnOk n0 n1 n2 n3) (hS : StreamOk w) (T : Top p loose mean mg mb sA.heap) (KX : (KK w.params).In sA.heap) (KT : sA.heap.get? 227 = some (tabObj #[])) (hgens : sA.gens = #[])
  (hL : sA.heap.IsList sa svs.toArray) (hz : svs.length <= 999) (hi : IntsAre svs ns) (hR : ∀ h g t, OldK sA.heap h -> AllBare g -> R (.ok (.ret (.bool true))) (Sg sA h g t)) : codeC (model pg w) callerA (.call (.ref 519) ⟨[.ref sa], []⟩) R sA := by
 have TA := tabs_at KX KT
 have XG : (KK w.params).In (ghostOf sA.heap [(231, 227)]) := ghost_K TA KX (kk_noTabs _)
 have TG := ghost_top TA T
 have h519 : (KK w.params).lookup 519 = some ⟨.type "function", none, .func (mkFn (topFn 49) (oS "law") .none (.str (oS "law_ae0015_01") 1050) (.ref 518) none), #[]⟩ := by with_unfolding_all rfl
 refine codeC_call_function (fd := mkFn (topFn 49) (oS "law") .none (.str (oS "law_ae0015_01") 1050) (.ref 518) none) (body := lawBody) (by decide) (KX _ _ h519) rfl rfl rfl rfl (codeRec_of KX (by with_unfolding_all rfl)) (kp_binds (binds := [(oS "script", .ref sa)]) KX (fun S => by rfl) _ _ _ _ ?_)
 refine wpAny_newFunctionEnv (by decide) (fun y hy => by rw [zS.mp hy]; rfl) (fun hAZ hnsZ hsbZ => ⟨T.nolimit.fresh _ hsbZ, codeC_func ?_⟩) rfl
 have hkA : ∀ b o, sA.heap.get? b = some o -> hAZ.get? b = some o := fun b o e => hsbZ.extBut b o (Nat.ne_of_lt (Heap.lt_size e)) (Heap.get?_push_of_some _ e)
 show wpC (model pg w) (callerA.deeper (lawEnv sA.heap.objs.size)) (execs lawBody (lawEnv sA.heap.objs.size)) _ _ _
 have F : Fr (ghostOf sA.heap [(231, 227)]) sA.heap.objs.size hAZ _ := ⟨hnsZ, fun b o e => hkA b o (of_hideAll _ e), Nat.le_of_eq (hideAll_size _ _)⟩
 have N : News (ghostOf sA.heap [(231, 227)]) sA.heap.objs.size hAZ [(227, tabObj #[])] := fun q hq => by
  rw [zS.mp hq]
  exact ⟨hkA _ _ KT, Nat.ne_of_lt (Heap.lt_size KT), hideAll_none _ (.head _)⟩
 have a : At w (callerA.deeper (lawEnv sA.heap.objs.size)) (lawEnv sA.heap.objs.size) (ghostOf sA.heap [(231, 227)]) sA.heap.objs.size 20 200 :=
  ⟨⟨_, _, _, _, _, callerA, ghostOf sA.heap [(231, 227)], [], below_caller _, TG, rfl⟩, rfl, rfl, rfl, rfl, XG, by show callerA.depth + 1 + 20 < _; decide, by show callerA.units + 3 + 200 < _; decide, ⟨_, [], rfl, fun _ _ e => e, trivial, XG, ⟨_, _, _, _, _, TG⟩, by show 1 <= callerA.depth + 1; decide, by show 3 <= callerA.units + 3; decide⟩⟩
 refine wpC_mono (law_body (o := tabObj #[]) (sa := sa) (svs := svs) (ns := ns) hT hS ⟨a, rfl, fun _ _ e => e, trivial, XG, ⟨_, _, _, _, _, TG⟩, by show 1 <= callerA.depth + 1; decide, by show 3 <= callerA.units + 3; decide⟩ F N ⟨#[], rfl, trivial⟩ (.of_eq hgens) rfl (fun {h m} F => ?_) hz hi (fun h g t o' hk h227 ht' hb' => ?_)) (fun f s' x => x) (fun _ _ x => x.elim)
 ·obtain ⟨o, e, r⟩ := ghost_list TA hL
  exact ⟨o, F.keep _ _ e, r⟩
 ·obtain ⟨ps, rfl, _⟩ := ht'
  refine hR h g t ⟨fun b o e => ?_, fun b o e => ?_⟩ hb'
  ·by_cases hb : b = 227
   ·subst hb
    rw [KT] at e
    cases e
    exact .inr (.inl ⟨((TA _ (.head _)).1.tab KT).isCodeTable, rfl, #[], ps, rfl, by simpa using h227⟩)
   ·exact .inl (hk b o (ghost_ne e fun z => hb (zS.mp z)))
  ·by_cases hb : b = 227
   ·subst hb; exact ⟨_, h227⟩
   ·exact ⟨o, hk b o (ghost_ne e fun z => hb (zS.mp z))⟩
theorem law_name (P : Params) : nsIn (KK P) mainGlobals (oS "law") = some (some (.ref 519)) := by with_unfolding_all rfl
theorem law_walk (hT : ∀ n0 n1 n2 n3, TurnOk n0 n1 n2 n3) (hS : ∀ w, StreamOk w) {q : Program} {loose : List Str} {XP : (Str -> Option Value) -> Heap -> Prop} {d : DefRec} (hname : d.name = oS "law") :
  WalkT q loose XP (kmHook KK KA (fun _ => by kernel_rfl) [227]).says rW.row.toRowW d := by
 intro w sZ sA mg mb G Y a hmg hg args vals as hpre hlay hrd hwl hlo
 have KX := km_in_of Y
 have KT := km_tabs_of Y 227 (.head _)
 refine Ground.open G ?_
 intro T B D TE TW
 have ha : a = 519 := by
  have := mg_of KX T.g (law_name _)
  rw [hname, this] at hmg
  cases hmg; rfl
 subst ha
 wrow_args hpre hlay hrd hwl hlo
 rename_i ns _ _ _ _ _ _ _ sa svs _ hL _ _ _ hi _ hz _
 refine law_enters (hT := hT) (hS := hS w) T KX KT hg hL (by rw [hi.length]; omega) hi fun h g t ho hb => ⟨.inl ⟨.bool true, .bool true, [], rfl, fun _ => rfl, .bool true, ?_, fun _ => ⟨.nil, fun _ h => nomatch h⟩⟩, ho, rfl, hb⟩
 wrow_post
noncomputable abbrev keysOf (D : FD) : List Str := D.map (·.1)
theorem dAt_of_mem {D : FD} (hn : (keysOf D).Nodup) {p : Str × FV} (hp : p ∈ D) : dAt D p.1 = some p.2 := by
 induction D with
 | nil => cases hp
 | cons q D ih =>
  obtain ⟨h1, h2⟩ := List.nodup_cons.mp hn
  rw [dAt_cons]
  rcases zC.mp hp with rfl | hp
  ·rw [if_pos rfl]
  ·rw [if_neg (fun e => h1 (show q.1 ∈ keysOf D by rw [e]; exact List.mem_map_of_mem hp))]
   exact ih h2 hp
theorem mem_of_dAt {D : FD} {key : Str} {x : FV} (h : dAt D key = some x) : (key, x) ∈ D := by
 induction D with
 | nil => cases h
 | cons q D ih =>
  rw [dAt_cons] at h
  split at h
  ·rename_i e
   cases h; subst e; exact .head _
  ·exact .tail _ (ih h)
theorem key_of_dAt {D : FD} {key : Str} {x : FV} (h : dAt D key = some x) : key ∈ keysOf D := List.mem_map_of_mem (mem_of_dAt h)
theorem dAt_some {D : FD} {key : Str} (h : key ∈ keysOf D) : ∃ x, dAt D key = some x := by
 cases e : dAt D key with
 | some x => exact ⟨x, rfl⟩
 | none =>
  exfalso
  induction D with
  | nil => cases h
  | cons q D ih =>
   rw [dAt_cons] at e
   split at e
   ·cases e
   ·rename_i hne
    rcases zC.mp h with h | h
    ·exact hne h.symm
    ·exact ih h e
theorem fd_ext {A B : FD} (hk : keysOf A = keysOf B) (hn : (keysOf A).Nodup) (h : ∀ key ∈ keysOf A, dAt A key = dAt B key) : A = B := by
 induction A generalizing B with
 | nil => cases B with
  | nil => rfl
  | cons q B => cases hk
 | cons p A ih =>
  cases B with
  | nil => cases hk
  | cons q B =>
   obtain ⟨e1, e2⟩ := List.cons.inj hk
   obtain ⟨h1, h2⟩ := List.nodup_cons.mp hn
   have hp := h p.1 (.head _)
   rw [dAt_cons, dAt_cons, if_pos rfl, if_pos e1.symm] at hp
   have : p = q := Prod.ext e1 (Option.some.inj hp)
   subst this
   congr 1
   refine ih e2 h2 fun key hkey => ?_
   have hne : p.1 ≠ key := fun e => h1 (show p.1 ∈ keysOf A by rw [e]; exact hkey)
   have := h key (.tail _ hkey)
   rwa [dAt_cons, dAt_cons, if_neg hne, if_neg hne] at this
theorem keys_put {D : FD} {k : Str} {x : FV} (h : k ∈ keysOf D) : keysOf (dPut D k x) = keysOf D := by
 unfold dPut
 rw [if_pos (List.any_eq_true.mpr (by obtain ⟨p, hp, e⟩ := List.mem_map.mp h; exact ⟨p, hp, decide_eq_true e⟩))]
 unfold keysOf
 rw [List.map_map]
 exact List.map_congr_left fun p _ => by show (if p.1 = k then (p.1, x) else p).1 = p.1; split <;> rfl
theorem keys_merge {M D : FD} (h : ∀ p ∈ M, p.1 ∈ keysOf D) : keysOf (dMerge D M) = keysOf D := by
 unfold dMerge
 induction M generalizing D with
 | nil => rfl
 | cons p M ih =>
  rw [List.foldl_cons, ih fun q hq => ?_]
  ·exact keys_put (h p (.head _))
  ·rw [keys_put (h p (.head _))]; exact h q (.tail _ hq)
theorem dAt_merge {M D : FD} (hn : (keysOf M).Nodup) (key : Str) : dAt (dMerge D M) key = (dAt M key).or (dAt D key) := by
 unfold dMerge
 induction M generalizing D with
 | nil => rfl
 | cons p M ih =>
  obtain ⟨h1, h2⟩ := List.nodup_cons.mp hn
  rw [List.foldl_cons, ih h2, dAt_put, dAt_cons]
  by_cases e : p.1 = key
  ·rw [if_pos e, if_pos e, dAt_none (e ▸ h1)]; rfl
  ·rw [if_neg e, if_neg e]
theorem merge_nil {M : FD} (hn : (keysOf M).Nodup) : dMerge [] M = M := by
 have key : ∀ (M A : FD), (keysOf (A ++ M)).Nodup -> M.foldl (fun acc kd => dPut acc kd.1 kd.2) A = A ++ M := by
  intro M
  induction M with
  | nil => intro A _; simp
  | cons p M ih =>
   intro A h
   have hA : p.1 ∉ keysOf A := by
    unfold keysOf at h ⊢
    rw [List.map_append, List.map_cons] at h
    exact fun hm => (List.nodup_append.mp h).2.2 p.1 hm p.1 (.head _) rfl
   rw [List.foldl_cons, dPut_new hA, ih _ (by rw [List.append_assoc]; exact h), List.append_assoc]
   rfl
 exact key M [] hn
theorem keys_del {D : FD} {k : Str} : keysOf (dDel D k) = (keysOf D).filter fun x => decide (x ≠ k) := by
 unfold dDel keysOf
 rw [List.filter_map]; rfl
theorem dEq_mem {D D' : FD} (hl : D.length = D'.length) (hn : (keysOf D').Nodup) (h : ∀ p ∈ D, p ∈ D') : dEq D D' = true := by
 unfold dEq
 rw [hl, beq_self_eq_true, Bool.true_and, List.all_eq_true]
 exact fun p hp => decide_eq_true (dAt_of_mem hn (h p hp))
noncomputable def pv : FV -> FV
 | .tup ns => .lst ns
 | x => x
noncomputable def tv : FV -> FV
 | .lst ns => .tup ns
 | x => x
noncomputable abbrev lf (D : FD) : FD := D.map fun p => (p.1, pv p.2)
noncomputable abbrev tf (D : FD) : FD := D.map fun p => (p.1, tv p.2)
theorem dAt_map (g : FV -> FV) (D : FD) (key : Str) : dAt (D.map fun p => (p.1, g p.2)) key = (dAt D key).map g := by
 induction D with
 | nil => rfl
 | cons p D ih =>
  rw [List.map_cons, dAt_cons, dAt_cons, ih]
  split <;> rfl
theorem keys_map (g : FV -> FV) (D : FD) : keysOf (D.map fun p => (p.1, g p.2)) = keysOf D := by
 unfold keysOf; rw [List.map_map]; rfl
theorem map_same {g : FV -> FV} {D : FD} (h : ∀ p ∈ D, g p.2 = p.2) : (D.map fun p => (p.1, g p.2)) = D := by
 conv => rhs; rw [<- List.map_id D]
 exact List.map_congr_left fun p hp => by show (p.1, g p.2) = p; rw [h p hp]
noncomputable def ValIn (key : Str) (x : FV) : Prop :=
 if (key == oS "data") = true then ∃ ns : List Int, x = .tup ns /\ ns.length <= 9 /\ ∀ n ∈ ns, 0 <= n /\ n <= 127
 else (∃ n, x = .int n /\ Small n) /\ okV key x
structure ValOk (k : Nat) (V : FD) : Prop where
 keys : keysOf V = vnames k
 each : ∀ p ∈ V, ValIn p.1 p.2
structure KindOk (k : Nat) : Prop where
 nodup : (oS "type" :: oS "time" :: vnames k).Nodup
 few : (vnames k).length <= 3
 sx : (kname k == oS "sysex") = (vnames k).contains (oS "data")
 noType : ∀ key ∈ vnames k, (key == oS "type") = false /\ (key == oS "time") = false
 sxKeys : (kname k == oS "sysex") = true -> vnames k = [oS "data"]
 free : ∀ key ∈ vnames k, ([oS "self", oS "kind", oS "skip_checks"].contains key) = false
 dfl : ldefaults k = lf (mkD k)
 dok : ∀ key ∈ vnames k, (key == oS "data") = false -> ∃ n, mdfl key = .int n /\ okV key (mdfl key)
theorem sixN_ok {key : Str} {n : Int} (h1 : (key == oS "channel") = false) (h2 : (key == oS "data") = false) (h3 : (key == oS "frame_type") = false) (h4 : (key == oS "frame_value") = false) (h5 : (key == oS "pitch") = false) (h6 : (key == oS "pos") = false) (h7 : (key == oS "time") = false) (h8 : (key == oS "type") = false)
  (hs : sixN.any (· == key) = true) (hn : 0 <= n /\ n <= 127) : okV key (.int n) := by
 unfold okV
 simp only [h1, h2, h3, h4, h5, h6, h7, h8, Bool.false_eq_true, if_false]
 exact ⟨hs, n, rfl, hn⟩
noncomputable def nameB (key : Str) : Bool := (key == oS "pitch") || (key == oS "pos") || (key == oS "frame_type") || (key == oS "frame_value") || (key == oS "data") ||
 (sixN.any (· == key) && !(key == oS "channel") && !(key == oS "time") && !(key == oS "type"))
theorem kkeys_named {k : Nat} (hk : k < 18) : (kkeys k).all nameB = true := by
 refine lt18 (p := fun k => (kkeys k).all nameB = true) ?_ hk
 refine ⟨?_, ?_, ?_, ?_, ?_, ?_, ?_, ?_, ?_, ?_, ?_, ?_, ?_, ?_, ?_, ?_, ?_, ?_⟩ <;> decide +kernel
theorem fmod_in (n : Int) {b : Int} (h : 0 < b) : 0 <= Int.fmod n b /\ Int.fmod n b <= b - 1 := ⟨Int.fmod_nonneg_of_pos n h, Int.le_sub_one_of_lt (Int.fmod_lt_of_pos n h)⟩
theorem beq_no {a b c : Str} (h : (a == b) = true) (hbc : (b == c) = false) : (a == c) = false := by rw [beq_iff_eq.mp h]; exact hbc
theorem sevens_in : ∀ (c : Nat) (n : Int), ∀ x ∈ sevens n c, 0 <= x /\ x <= 127
 | 0, _, _, h => nomatch h
 | c + 1, n, x, h => by
  rw [sevens] at h
  rcases zC.mp h with rfl | h
  ·exact fmod_in n (by decide)
  ·exact sevens_in c _ x h
theorem lval_in {k : Nat} (hk : k < 18) {key : Str} (hm : key ∈ kkeys k) (first : Str) (two three : Int) : ValIn key (lval first key two three) := by
 have hb := List.all_eq_true.mp (kkeys_named hk) key hm
 unfold ValIn lval
 by_cases h1 : (key == oS "pitch") = true
 ·rw [if_pos h1, if_neg (ne_true_of_eq_false (beq_no h1 (by decide +kernel)))]
  have := fmod_in two (b := 16384) (by decide)
  refine ⟨⟨_, rfl, by omega, by omega⟩, ?_⟩
  rw [beq_iff_eq.mp h1]
  unfold okV
  exact ⟨_, rfl, by omega, by omega⟩
 rw [if_neg h1]
 by_cases h2 : (key == oS "pos") = true
 ·rw [if_pos h2, if_neg (ne_true_of_eq_false (beq_no h2 (by decide +kernel)))]
  have := fmod_in two (b := 16384) (by decide)
  refine ⟨⟨_, rfl, by omega, by omega⟩, ?_⟩
  rw [beq_iff_eq.mp h2]
  unfold okV
  exact ⟨_, rfl, by omega, by omega⟩
 rw [if_neg h2]
 by_cases h3 : (key == oS "frame_type") = true
 ·rw [if_pos h3, if_neg (ne_true_of_eq_false (beq_no h3 (by decide +kernel)))]
  have := fmod_in two (b := 8) (by decide)
  refine ⟨⟨_, rfl, by omega, by omega⟩, ?_⟩
  rw [beq_iff_eq.mp h3]
  unfold okV
  exact ⟨_, rfl, by omega, by omega⟩
 rw [if_neg h3]
 by_cases h4 : (key == oS "frame_value") = true
 ·rw [if_pos h4, if_neg (ne_true_of_eq_false (beq_no h4 (by decide +kernel)))]
  have := fmod_in three (b := 16) (by decide)
  refine ⟨⟨_, rfl, by omega, by omega⟩, ?_⟩
  rw [beq_iff_eq.mp h4]
  unfold okV
  exact ⟨_, rfl, by omega, by omega⟩
 rw [if_neg h4]
 by_cases h5 : (key == oS "data") = true
 ·rw [if_pos h5, if_pos h5]
  have := fmod_in three (b := 9) (by decide)
  exact ⟨_, rfl, by rw [sevens_len]; omega, sevens_in _ _⟩
 rw [if_neg h5, if_neg h5]
 have h6 : sixN.any (· == key) = true /\ (key == oS "channel") = false /\ (key == oS "time") = false /\ (key == oS "type") = false := by
  unfold nameB at hb
  rw [Bool.eq_false_iff.mpr h1, Bool.eq_false_iff.mpr h2, Bool.eq_false_iff.mpr h3, Bool.eq_false_iff.mpr h4, Bool.eq_false_iff.mpr h5] at hb
  simp only [Bool.false_or, Bool.and_eq_true, Bool.not_eq_true'] at hb
  exact ⟨hb.1.1.1, hb.1.1.2, hb.1.2, hb.2⟩
 have go : ∀ n : Int, 0 <= n /\ n <= 127 -> (∃ m, FV.int n = .int m /\ Small m) /\ okV key (.int n) := fun n hn => ⟨⟨n, rfl, by omega, by omega⟩, sixN_ok h6.2.1 (Bool.eq_false_iff.mpr h5) (Bool.eq_false_iff.mpr h3) (Bool.eq_false_iff.mpr h4) (Bool.eq_false_iff.mpr h1) (Bool.eq_false_iff.mpr h2) h6.2.2.1 h6.2.2.2 h6.1 hn⟩
 split
 ·exact go _ (fmod_in two (by decide))
 ·exact go _ (fmod_in three (by decide))
theorem kind_ok {k : Nat} (hk : k < 18) : KindOk k := by
 have h : (oS "type" :: oS "time" :: vnames k).Nodup /\ (vnames k).length <= 3 /\ (kname k == oS "sysex") = (vnames k).contains (oS "data") /\ (∀ key ∈ vnames k, (key == oS "type") = false /\ (key == oS "time") = false) /\ ((kname k == oS "sysex") = true -> vnames k = [oS "data"]) /\
   (∀ key ∈ vnames k, ([oS "self", oS "kind", oS "skip_checks"].contains key) = false) /\ ldefaults k = lf (mkD k) := by
  refine lt18 (p := fun k => (oS "type" :: oS "time" :: vnames k).Nodup /\ (vnames k).length <= 3 /\ (kname k == oS "sysex") = (vnames k).contains (oS "data") /\ (∀ key ∈ vnames k, (key == oS "type") = false /\ (key == oS "time") = false) /\ ((kname k == oS "sysex") = true -> vnames k = [oS "data"]) /\
   (∀ key ∈ vnames k, ([oS "self", oS "kind", oS "skip_checks"].contains key) = false) /\ ldefaults k = lf (mkD k)) ?_ hk
  refine ⟨?_, ?_, ?_, ?_, ?_, ?_, ?_, ?_, ?_, ?_, ?_, ?_, ?_, ?_, ?_, ?_, ?_, ?_⟩ <;> decide +kernel
 obtain ⟨h1, h2, h3, h4, h5, h6, h7⟩ := h
 refine ⟨h1, h2, h3, h4, h5, h6, h7, fun key hm hd => ?_⟩
 have hty := (h4 key hm).1
 by_cases hv : (key == oS "velocity") = true
 ·refine ⟨64, by rw [mdfl, if_neg (ne_true_of_eq_false hd), if_pos hv], ?_⟩
  rw [mdfl, if_neg (ne_true_of_eq_false hd), if_pos hv, beq_iff_eq.mp hv]
  exact sixN_ok (by decide +kernel) (by decide +kernel) (by decide +kernel) (by decide +kernel) (by decide +kernel) (by decide +kernel) (by decide +kernel) (by decide +kernel) (by decide +kernel) (by decide)
 ·have e : mdfl key = .int 0 := by rw [mdfl, if_neg (ne_true_of_eq_false hd), if_neg hv]
  refine ⟨0, e, ?_⟩
  rw [e]
  have hb : (key == oS "channel") = true ∨ nameB key = true := by
   unfold vnames at hm
   rcases zA.mp hm with hm | hm
   ·split at hm
    ·exact .inl (beq_iff_eq.mpr (zS.mp hm))
    ·cases hm
   ·exact .inr (List.all_eq_true.mp (kkeys_named hk) key hm)
  unfold okV
  split
  ·exact ⟨0, rfl, by decide, by decide⟩
  rename_i c1
  rw [if_neg (ne_true_of_eq_false hd)]
  split
  ·exact ⟨0, rfl, by decide, by decide⟩
  rename_i c3
  split
  ·exact ⟨0, rfl, by decide, by decide⟩
  rename_i c4
  split
  ·exact ⟨0, rfl, by decide, by decide⟩
  rename_i c5
  split
  ·exact ⟨0, rfl, by decide, by decide⟩
  rename_i c6
  split
  ·exact ⟨0, rfl⟩
  rw [if_neg (ne_true_of_eq_false hty)]
  refine ⟨?_, 0, rfl, by decide, by decide⟩
  rcases hb with hb | hb
  ·exact absurd hb c1
  ·unfold nameB at hb
   rw [Bool.eq_false_iff.mpr c5, Bool.eq_false_iff.mpr c6, Bool.eq_false_iff.mpr c3, Bool.eq_false_iff.mpr c4, hd] at hb
   simp only [Bool.false_or, Bool.and_eq_true] at hb
   exact hb.1.1.1
theorem n_dd : (oS "data" == oS "data") = true := by decide +kernel
theorem n_cd : ¬ (oS "channel" == oS "data") = true := by decide +kernel
theorem n_cc : (oS "channel" == oS "channel") = true := by decide +kernel
theorem lvalues_keys (k : Nat) (one two three : Int) : keysOf (lvalues k one two three) = vnames k := by
 unfold lvalues keysOf lkeys lchan vnames
 rw [List.map_append, List.map_map]
 congr 1
 ·split <;> rfl
 ·exact (List.map_congr_left fun key _ => rfl).trans (List.map_id _)
theorem lv_ok {k : Nat} (hk : k < 18) (one two three : Int) : ValOk k (lvalues k one two three) := by
 refine ⟨lvalues_keys k one two three, fun p hp => ?_⟩
 unfold lvalues at hp
 rcases zA.mp hp with hp | hp
 ·unfold lchan at hp
  split at hp
  ·rw [zS.mp hp]
   have := fmod_in one (b := 16) (by decide)
   unfold ValIn
   rw [if_neg n_cd]
   refine ⟨⟨_, rfl, by omega, by omega⟩, ?_⟩
   unfold okV
   rw [if_pos n_cc]
   exact ⟨_, rfl, by omega, by omega⟩
  ·cases hp
 ·obtain ⟨key, hkey, rfl⟩ := List.mem_map.mp hp
  exact lval_in hk hkey _ two three
theorem lv_nodup {k : Nat} (hk : k < 18) {V : FD} (h : keysOf V = vnames k) : (keysOf V).Nodup := by
 rw [h]
 exact (List.nodup_cons.mp (List.nodup_cons.mp (kind_ok hk).nodup).2).2
theorem turn1_ok (n0 n1 n2 n3 : Int) : Turn1 (kOf n0) n1 n2 n3 := by
 have hk := kOf_lt n0
 have hv := lv_ok hk n1 n2 (thirdOf (kOf n0) n1 n2)
 have hl : (lvD (kOf n0) n1 n2).length <= 3 := by
  have := congrArg List.length hv.keys
  unfold keysOf at this
  rw [List.length_map] at this
  show (lvalues _ _ _ _).length <= 3
  rw [this]; exact (kind_ok hk).few
 refine ⟨fun hs => ?_, Nat.le_trans hl (by decide)⟩
 have hkeys := (kind_ok hk).sxKeys hs
 obtain ⟨x, hx⟩ := dAt_some (D := lvD (kOf n0) n1 n2) (key := oS "data") (by show _ ∈ keysOf (lvalues _ _ _ _); rw [hv.keys, hkeys]; exact .head _)
 have hin := hv.each _ (mem_of_dAt hx)
 unfold ValIn at hin
 rw [if_pos n_dd] at hin
 obtain ⟨ns, rfl, h9, _⟩ := hin
 have e : dSeq (lvD (kOf n0) n1 n2) (oS "data") = ns := by unfold dSeq; rw [hx]
 rw [e]
 exact ⟨hx, Nat.le_trans h9 (by decide)⟩
structure ValOk2 (k : Nat) (V : FD) : Prop where
 keys : keysOf V = vnames k
 each : ∀ p ∈ V, if (p.1 == oS "data") = true then ∃ ns : List Int, p.2 = .tup ns /\ ns.length <= 10 /\ ns ≠ [] /\ ∀ n ∈ ns, 0 <= n /\ n <= 127 else (∃ n, p.2 = .int n /\ Small n) /\ okV p.1 p.2
theorem val_ok (n0 n1 n2 n3 : Int) : ValOk2 (kOf n0) (valD (kOf n0) n1 n2 n3) := by
 have hk := kOf_lt n0
 have K := kind_ok hk
 have hv := lv_ok hk n1 n2 (thirdOf (kOf n0) n1 n2)
 have T1 := turn1_ok n0 n1 n2 n3
 unfold valD
 split
 ·rename_i hs
  obtain ⟨hx, _⟩ := T1.data hs
  have hin := hv.each _ (mem_of_dAt hx)
  unfold ValIn at hin
  rw [if_pos n_dd] at hin
  obtain ⟨ns, hns, h9, hall⟩ := hin
  have hns : dSeq (lvD (kOf n0) n1 n2) (oS "data") = ns := by injection hns
  have hkm : oS "data" ∈ keysOf (lvD (kOf n0) n1 n2) := key_of_dAt hx
  refine ⟨(keys_put hkm).trans hv.keys, fun p hp => ?_⟩
  have hkeys := K.sxKeys hs
  have hp1 : p.1 = oS "data" := by
   have : p.1 ∈ keysOf (dPut (lvD (kOf n0) n1 n2) (oS "data") (.tup (dSeq (lvD (kOf n0) n1 n2) (oS "data") ++ [Int.fmod n3 128]))) := List.mem_map_of_mem hp
   rw [keys_put hkm, show keysOf (lvD (kOf n0) n1 n2) = vnames (kOf n0) from hv.keys, hkeys] at this
   exact zS.mp this
  have hnd : (keysOf (dPut (lvD (kOf n0) n1 n2) (oS "data") (.tup (dSeq (lvD (kOf n0) n1 n2) (oS "data") ++ [Int.fmod n3 128])))).Nodup := by rw [keys_put hkm]; exact lv_nodup hk hv.keys
  have h2 := dAt_of_mem hnd hp
  rw [hp1, dAt_put, if_pos rfl] at h2
  rw [hp1, if_pos n_dd, <- Option.some.inj h2, hns]
  refine ⟨_, rfl, by rw [List.length_append]; show _ + 1 <= 10; omega, by simp, fun n hn => ?_⟩
  rcases zA.mp hn with hn | hn
  ·exact hall n hn
  ·rw [zS.mp hn]; exact fmod_in n3 (by decide)
 ·rename_i hs
  refine ⟨hv.keys, fun p hp => ?_⟩
  have hin := hv.each p hp
  unfold ValIn at hin
  have hno : (p.1 == oS "data") = false := by
   have hm : p.1 ∈ vnames (kOf n0) := by rw [<- hv.keys]; exact List.mem_map_of_mem hp
   have := K.sx
   rw [show (kname (kOf n0) == oS "sysex") = false from Bool.eq_false_iff.mpr hs] at this
   cases e : p.1 == oS "data" with
   | false => rfl
   | true =>
    rw [beq_iff_eq.mp e] at hm
    rw [List.contains_iff_mem.mpr hm] at this
    cases this
  rw [if_neg (ne_true_of_eq_false hno)] at hin ⊢
  exact hin
theorem sapp (a b c : Str) : a ++ b ++ c = a ++ (b ++ c) := str_eq (by simp only [cps_app, List.append_assoc])
theorem sapp0 (a : Str) : a ++ Str.empty = a := str_eq (by rw [cps_app]; simp [Str.empty])
theorem s0app (a : Str) : Str.empty ++ a = a := str_eq (by rw [cps_app]; rfl)
theorem words_pad {pre y post : Str} (hp : AllSp pre) (hq : AllSp post) : Txt.words (pre ++ (y ++ post)) = Txt.words y := by
 rw [words_sc, words_sc, sc_append, sc_append, sc_blank0 hp]
 generalize hst : sc ([], Str.empty) y = st
 obtain ⟨d, r⟩ := st
 by_cases hr : r.length = 0
 ·have : r = Str.empty := str_eq (by
   have : r.cps.toList.length = 0 := by simpa [Str.length] using hr
   rw [List.length_eq_zero_iff.mp this]; rfl)
  subst this
  rw [sc_blank0 hq]
 ·by_cases h0 : post.cps.toList = []
  ·have : sc (d, r) post = (d, r) := by unfold sc; rw [h0]; rfl
   rw [this]
  ·rw [sc_blank hq h0 hr, fin_last hr]; rfl
theorem strip_parts (x : Str) : ∃ pre post, x = pre ++ (Txt.strip x ++ post) /\ AllSp pre /\ AllSp post := by
 have e0 : (⟨#[]⟩ : Str).cps.toList = [] := rfl
 unfold Txt.strip Txt.stripBy
 split
 ·exact ⟨⟨#[]⟩, ⟨#[]⟩, str_eq (by rw [cps_app, cps_app, e0]; simp), (fun c h => by rw [e0] at h; cases h), (fun c h => by rw [e0] at h; cases h)⟩
 ·have hall : ∀ (l : List Nat), ∀ c ∈ l.takeWhile Unicode.isSpace, Unicode.isSpace c = true := fun l c hc => by
   have := List.all_takeWhile (p := Unicode.isSpace) (l := l)
   exact List.all_eq_true.mp this c hc
  refine ⟨⟨(x.cps.toList.takeWhile Unicode.isSpace).toArray⟩, ⟨(((x.cps.toList.drop (x.cps.toList.takeWhile Unicode.isSpace).length).reverse.takeWhile Unicode.isSpace).reverse).toArray⟩, str_eq ?_, fun c h => hall _ c (by simpa using h), fun c h => hall _ c (by simpa using h)⟩
  rw [cps_app, cps_app]
  have hs : (PySem.stripped Unicode.isSpace true true x).cps.toList = (x.cps.toList.drop (x.cps.toList.takeWhile Unicode.isSpace).length).take (x.length - ((x.cps.toList.drop (x.cps.toList.takeWhile Unicode.isSpace).length).reverse.takeWhile Unicode.isSpace).length - (x.cps.toList.takeWhile Unicode.isSpace).length) := by
   show (x.cps.extract _ _).toList = _
   rw [Array.toList_extract, List.extract_eq_take_drop]; rfl
  rw [hs]
  have hxl : x.length = x.cps.toList.length := by show x.cps.size = _; simp
  rw [hxl]
  generalize x.cps.toList = l
  show l = l.takeWhile Unicode.isSpace ++ ((l.drop (l.takeWhile Unicode.isSpace).length).take (l.length - ((l.drop (l.takeWhile Unicode.isSpace).length).reverse.takeWhile Unicode.isSpace).length - (l.takeWhile Unicode.isSpace).length) ++ ((l.drop (l.takeWhile Unicode.isSpace).length).reverse.takeWhile Unicode.isSpace).reverse)
  have hd : l.drop (l.takeWhile Unicode.isSpace).length = l.dropWhile Unicode.isSpace := by
   conv => lhs; arg 2; rw [<- List.takeWhile_append_dropWhile (p := Unicode.isSpace) (l := l)]
   rw [List.drop_left']
   rfl
  have hll : (l.takeWhile Unicode.isSpace).length + (l.dropWhile Unicode.isSpace).length = l.length := by
   rw [<- List.length_append, List.takeWhile_append_dropWhile]
  rw [hd]
  have ht : (l.dropWhile Unicode.isSpace).take (l.length - ((l.dropWhile Unicode.isSpace).reverse.takeWhile Unicode.isSpace).length - (l.takeWhile Unicode.isSpace).length) ++ ((l.dropWhile Unicode.isSpace).reverse.takeWhile Unicode.isSpace).reverse = l.dropWhile Unicode.isSpace := by
   have hn : l.length - ((l.dropWhile Unicode.isSpace).reverse.takeWhile Unicode.isSpace).length - (l.takeWhile Unicode.isSpace).length = (l.dropWhile Unicode.isSpace).length - ((l.dropWhile Unicode.isSpace).reverse.takeWhile Unicode.isSpace).length := by omega
   rw [hn]
   generalize l.dropWhile Unicode.isSpace = d
   have h1 : d.reverse = d.reverse.takeWhile Unicode.isSpace ++ d.reverse.dropWhile Unicode.isSpace := List.takeWhile_append_dropWhile.symm
   have h2 : d = (d.reverse.dropWhile Unicode.isSpace).reverse ++ (d.reverse.takeWhile Unicode.isSpace).reverse := by
    have := congrArg List.reverse h1
    rw [List.reverse_reverse, List.reverse_append] at this
    exact this
   have h3 : (d.reverse.dropWhile Unicode.isSpace).reverse.length = d.length - (d.reverse.takeWhile Unicode.isSpace).length := by
    have := congrArg List.length h2
    rw [List.length_append, List.length_reverse] at this
    rw [List.length_reverse] at this ⊢
    omega
   conv => rhs; rw [h2]
   congr 1
   conv => lhs; arg 2; rw [h2]
   exact List.take_left' h3
  rw [ht, List.takeWhile_append_dropWhile]
theorem words_strip (x : Str) : Txt.words (Txt.strip x) = Txt.words x := by
 obtain ⟨pre, post, e, h1, h2⟩ := strip_parts x
 conv => rhs; rw [e]
 exact (words_pad h1 h2).symm
noncomputable def txt : FV -> Str
 | .int n => intStr n
 | .lst ns => oS "(" ++ Txt.join (oS ",") (ns.map intStr) ++ oS ")"
 | _ => Str.empty
noncomputable def wt (p : Str × FV) : Str := p.1 ++ (oS "=" ++ txt p.2)
noncomputable def EN (V : FD) (when : Int) : FD := lf V ++ [(oS "time", .int when)]
theorem data_eq : oS "data=(" = oS "data" ++ (oS "=" ++ oS "(") := by decide +kernel
theorem chan_eq : oS "channel=" = oS "channel" ++ oS "=" := by decide +kernel
theorem time_eq : oS "time=" = oS "time" ++ oS "=" := by decide +kernel
theorem sptime_eq : oS " time=" = oS " " ++ oS "time=" := by decide +kernel
section
variable {k : Nat} {V : FD} {when : Int}
theorem lwords_eq (k : Nat) (V : FD) : lwords k V = (vnames k).map (mword V) := by
 unfold lwords vnames chanW
 rw [List.map_append]
 congr 1
 ·split
  ·show [_] = [mword V (oS "channel")]
   unfold mword
   rw [if_neg n_cd, chan_eq]
  ·rfl
 ·refine List.map_congr_left fun key _ => ?_
  unfold wordOf mword
  split
  ·rename_i h
   rw [beq_iff_eq.mp h, data_eq]
   simp only [sapp]
  ·rfl
theorem mword_wt (hk : k < 18) (hV : ValOk2 k V) {p : Str × FV} (hp : p ∈ V) : mword V p.1 = wt (p.1, pv p.2) := by
 have hn := lv_nodup hk hV.keys
 have ha := dAt_of_mem hn hp
 have he := hV.each p hp
 unfold mword wt
 by_cases hd : (p.1 == oS "data") = true
 ·rw [if_pos hd]
  rw [if_pos hd] at he
  obtain ⟨ns, e, _⟩ := he
  have : dSeq V p.1 = ns := by unfold dSeq; rw [ha, e]
  rw [this, e]
  show _ = p.1 ++ (oS "=" ++ (oS "(" ++ _ ++ oS ")"))
  simp only [sapp]
 ·rw [if_neg hd]
  rw [if_neg hd] at he
  obtain ⟨⟨n, e, _⟩, _⟩ := he
  have : dInt V p.1 = n := by unfold dInt; rw [ha, e]
  rw [this, e, sapp]; rfl
theorem lwords_wt (hk : k < 18) (hV : ValOk2 k V) : lwords k V = (lf V).map wt := by
 rw [lwords_eq, <- hV.keys]
 unfold keysOf lf
 rw [List.map_map, List.map_map]
 exact List.map_congr_left fun p hp => mword_wt hk hV hp
theorem whole_wt (hk : k < 18) (hV : ValOk2 k V) : wholeOf (lwords k V) when = (EN V when).map wt := by
 unfold wholeOf EN
 rw [lwords_wt hk hV, List.map_append]
 show _ ++ [_] = _ ++ [wt (oS "time", .int when)]
 unfold wt
 rw [time_eq, sapp]; rfl
theorem join_snoc (sep x y : Str) (ws : List Str) : Txt.join sep (x :: ws ++ [y]) = Txt.join sep (x :: ws) ++ (sep ++ y) := by
 refine str_eq ?_
 show ((ws ++ [y]).foldl (fun acc p => acc ++ sep.cps ++ p.cps) x.cps).toList = _
 rw [List.foldl_append, cps_app, cps_app]
 show (_ ++ sep.cps ++ y.cps).toList = _
 simp only [Array.toList_append, List.append_assoc]
 rfl
theorem full_join (hk : k < 18) (hV : ValOk2 k V) : fullS k V when = Txt.join (oS " ") (kname k :: (EN V when).map wt) := by
 unfold fullS toldS EN
 rw [List.map_append, <- lwords_wt hk hV]
 show _ = Txt.join _ (kname k :: lwords k V ++ [wt (oS "time", .int when)])
 rw [join_snoc, sptime_eq, time_eq]
 unfold wt
 simp only [sapp]
 rfl
structure Speaks (k : Nat) (V : FD) (when : Int) (X : FD) : Prop where
 nodup : (keysOf X).Nodup
 type : (oS "type", FV.str (kname k)) ∈ X
 time : (oS "time", FV.int when) ∈ X
 each : ∀ p ∈ V, p ∈ X
theorem Speaks.word (hX : Speaks k V when X) (hn : (keysOf V).Nodup) {key : Str} (hkey : key ∈ keysOf V) : mword X key = mword V key := by
 obtain ⟨p, hp, rfl⟩ := List.mem_map.mp hkey
 have h1 := dAt_of_mem hX.nodup (hX.each p hp)
 have h2 := dAt_of_mem hn hp
 unfold mword dSeq dInt
 rw [h1, h2]
theorem Speaks.text (hk : k < 18) (hV : ValOk2 k V) (hX : Speaks k V when X) : mtext k X true = fullS k V when /\ mtext k X false = toldS k V := by
 have hn := lv_nodup hk hV.keys
 have hw : mwords k X = lwords k V := by
  rw [lwords_eq]
  unfold mwords
  exact List.map_congr_left fun key hkey => hX.word hn (hV.keys ▸ hkey)
 have ht : dInt X (oS "time") = when := by unfold dInt; rw [dAt_of_mem hX.nodup hX.time]
 unfold mtext
 rw [hw]
 constructor
 ·unfold timeW fullS toldS
  rw [if_pos rfl, ht]
  show Txt.join _ (kname k :: lwords k V ++ [_]) = _
  rw [join_snoc, sptime_eq]
  simp only [sapp]
 ·unfold timeW toldS
  rw [if_neg (by decide)]
  show Txt.join _ (kname k :: (lwords k V ++ [])) = _
  rw [List.append_nil]
theorem Speaks.good (hk : k < 18) (hV : ValOk2 k V) (hs : Small when) (hX : Speaks k V when X) : GoodM k X := by
 have hat : ∀ key ∈ vnames k, ∃ p ∈ V, p.1 = key := fun key hm => by
  rw [<- hV.keys] at hm
  obtain ⟨p, hp, e⟩ := List.mem_map.mp hm
  exact ⟨p, hp, e⟩
 have ht := dAt_of_mem hX.nodup hX.time
 have e1 : dInt X (oS "time") = when := by unfold dInt; rw [ht]
 refine ⟨dAt_of_mem hX.nodup hX.type, by rw [e1]; exact ⟨ht, hs⟩, fun key hm hd => ?_, fun key hm hd => ?_⟩
 ·obtain ⟨p, hp, rfl⟩ := hat key hm
  have ha := dAt_of_mem hX.nodup (hX.each p hp)
  have he := hV.each p hp
  rw [if_neg (ne_true_of_eq_false hd)] at he
  obtain ⟨⟨n, e, hsn⟩, _⟩ := he
  have : dInt X p.1 = n := by unfold dInt; rw [ha, e]
  rw [this, ha, e]
  exact ⟨rfl, hsn⟩
 ·obtain ⟨p, hp, rfl⟩ := hat key hm
  have ha := dAt_of_mem hX.nodup (hX.each p hp)
  have he := hV.each p hp
  rw [if_pos hd] at he
  obtain ⟨ns, e, hl, _, hall⟩ := he
  have : dSeq X p.1 = ns := by unfold dSeq; rw [ha, e]
  rw [this, ha, e]
  exact ⟨rfl, fun n hn => by have := hall n hn; constructor <;> omega, Nat.le_trans hl (by decide)⟩
end
noncomputable def HT (k : Nat) (t : Int) : FD := [(oS "type", .str (kname k)), (oS "time", .int t)]
theorem n_ty_ti : oS "type" ≠ oS "time" := by decide +kernel
theorem nodup_swap {a b : Str} {l : List Str} (h : (a :: b :: l).Nodup) : (l ++ [a, b]).Nodup := by
 have h1 := List.nodup_cons.mp h
 have h2 := List.nodup_cons.mp h1.2
 refine List.nodup_append.mpr ⟨h2.2, List.nodup_cons.mpr ⟨(fun e => h1.1 (zS.mp e ▸ .head _)), List.nodup_cons.mpr ⟨(fun e => nomatch e), List.nodup_nil⟩⟩, fun x hx y hy e => ?_⟩
 subst e
 rcases zC.mp hy with rfl | hy
 ·exact h1.1 (.tail _ hx)
 ·rw [zS.mp hy] at hx; exact h2.1 hx
theorem keys_mk (k : Nat) : keysOf (mkD k) = oS "type" :: oS "time" :: vnames k := by
 unfold keysOf mkD mkHead
 rw [List.map_append, List.map_map]
 show _ :: _ :: (vnames k).map _ = _
 congr 2
 exact (List.map_congr_left fun key _ => rfl).trans (List.map_id _)
section
variable {k : Nat} {V : FD} {when : Int}
theorem keys_HT (hV : ValOk2 k V) (when : Int) : keysOf (HT k when ++ V) = keysOf (mkD k) := by
 rw [keys_mk, <- hV.keys]; rfl
theorem HT_nodup (hk : k < 18) (hV : ValOk2 k V) (when : Int) : (keysOf (HT k when ++ V)).Nodup := by rw [keys_HT hV, keys_mk]; exact (kind_ok hk).nodup
theorem fld_eq (hk : k < 18) (hV : ValOk2 k V) : fldD k V when = V ++ HT k when := by
 have h := nodup_swap (kind_ok hk).nodup
 rw [<- hV.keys] at h
 have h1 := List.nodup_append.mp h
 unfold fldD
 rw [dPut_new (fun e => h1.2.2 _ e _ (.head _) rfl), dPut_new, List.append_assoc]
 ·rfl
 ·rw [List.map_append]
  intro e
  rcases zA.mp e with e | e
  ·exact h1.2.2 _ e _ (.tail _ (.head _)) rfl
  ·exact n_ty_ti (zS.mp e).symm
theorem fld_nodup (hk : k < 18) (hV : ValOk2 k V) : (keysOf (V ++ HT k when)).Nodup := by
 have h := nodup_swap (kind_ok hk).nodup
 rw [<- hV.keys] at h
 unfold keysOf at *
 rw [List.map_append]; exact h
theorem speaks_fld (hk : k < 18) (hV : ValOk2 k V) : Speaks k V when (V ++ HT k when) :=
 ⟨fld_nodup hk hV, zR _ (.head _), zR _ (.tail _ (.head _)), fun p hp => zL _ hp⟩
theorem speaks_HT (hk : k < 18) (hV : ValOk2 k V) : Speaks k V when (HT k when ++ V) :=
 ⟨HT_nodup hk hV when, .head _, .tail _ (.head _), fun p hp => zR _ hp⟩
theorem merge_all {X A : FD} (hX : (keysOf X).Nodup) (hA : (keysOf A).Nodup) (hkeys : keysOf A = keysOf (mkD k)) (hsub : ∀ p ∈ X, p.1 ∈ keysOf (mkD k)) (hat : ∀ p ∈ A, p ∈ X ∨ (p.1 ∉ keysOf X /\ dAt (mkD k) p.1 = some p.2)) : dMerge (mkD k) X = A := by
 have hk1 : keysOf (dMerge (mkD k) X) = keysOf A := (keys_merge hsub).trans hkeys.symm
 refine fd_ext hk1 (hk1 ▸ hA) fun key hkey => ?_
 rw [hk1] at hkey
 obtain ⟨p, hp, rfl⟩ := List.mem_map.mp hkey
 rw [dAt_merge hX, dAt_of_mem hA hp]
 rcases hat p hp with h | ⟨h, e⟩
 ·rw [dAt_of_mem hX h]; rfl
 ·rw [dAt_none h, e]; rfl
theorem mk_type (hk : k < 18) : dAt (mkD k) (oS "type") = some (.str (kname k)) := rfl
theorem mk_nodup (hk : k < 18) : (keysOf (mkD k)).Nodup := by rw [keys_mk]; exact (kind_ok hk).nodup
theorem del_mem {D : FD} {p : Str × FV} (hp : p ∈ D) (hne : p.1 ≠ oS "type") : p ∈ dDel D (oS "type") := List.mem_filter.mpr ⟨hp, decide_eq_true hne⟩
theorem del_nodup {D : FD} (h : (keysOf D).Nodup) : (keysOf (dDel D (oS "type"))).Nodup := by rw [keys_del]; exact h.filter _
theorem del_sub {D : FD} {p : Str × FV} (hp : p ∈ dDel D (oS "type")) : p ∈ D /\ p.1 ≠ oS "type" := ⟨(List.mem_filter.mp hp).1, of_decide_eq_true (List.mem_filter.mp hp).2⟩
theorem made_of (hk : k < 18) {D A : FD} (hD : (keysOf D).Nodup) (hA : (keysOf A).Nodup) (hkeys : keysOf A = keysOf (mkD k)) (hsub : ∀ p ∈ D, p.1 ∈ keysOf (mkD k)) (hat : ∀ p ∈ A, p ∈ D) (ht : (oS "type", FV.str (kname k)) ∈ A) : madeD k D = A := by
 refine merge_all (del_nodup hD) hA hkeys (fun p hp => hsub p (del_sub hp).1) fun p hp => ?_
 by_cases e : p.1 = oS "type"
 ·refine .inr ⟨fun hm => ?_, ?_⟩
  ·obtain ⟨q, hq, e2⟩ := List.mem_map.mp hm
   exact (del_sub hq).2 (e2.trans e)
  ·have h1 := dAt_of_mem hA hp
   have h2 := dAt_of_mem hA ht
   rw [e] at h1 ⊢
   rw [mk_type hk, <- h1, h2]
 ·exact .inl (del_mem (hat p hp) e)
theorem sub_mk (hV : ValOk2 k V) {p : Str × FV} (hp : p ∈ V ++ HT k when) : p.1 ∈ keysOf (mkD k) := by
 rw [keys_mk]
 rcases zA.mp hp with hp | hp
 ·exact .tail _ (.tail _ (hV.keys ▸ List.mem_map_of_mem hp))
 ·rcases zC.mp hp with rfl | hp
  ·exact .head _
  ·rw [zS.mp hp]; exact .tail _ (.head _)
theorem made_fld (hk : k < 18) (hV : ValOk2 k V) : madeD k (V ++ HT k when) = HT k when ++ V :=
 made_of hk (fld_nodup hk hV) (HT_nodup hk hV when) (keys_HT hV when) (fun p hp => sub_mk hV hp) (fun p hp => (zA.mp hp).elim (fun z => zR _ z) fun z => zL _ z) (.head _)
structure Entries (k : Nat) (S : FD) : Prop where
 keys : keysOf S = keysOf (mkD k)
 type : (oS "type", FV.str (kname k)) ∈ S
 time : ∃ n, (oS "time", FV.int n) ∈ S
 each : ∀ p ∈ S, p.1 ∈ vnames k -> if (p.1 == oS "data") = true then ∃ ns : List Int, (p.2 = .tup ns ∨ p.2 = .lst ns) /\ ns.length <= 10 /\ ∀ n ∈ ns, 0 <= n /\ n <= 127 else (∃ n, p.2 = .int n) /\ okV p.1 p.2
section
variable {S : FD} (hk : k < 18) (hS : Entries k S)
include hk hS
theorem Entries.nodup : (keysOf S).Nodup := by rw [hS.keys]; exact mk_nodup hk
theorem Entries.cases {p : Str × FV} (hp : p ∈ S) : p = (oS "type", FV.str (kname k)) ∨ (∃ n, p = (oS "time", FV.int n)) ∨ p.1 ∈ vnames k := by
 have h1 : p.1 ∈ keysOf S := List.mem_map_of_mem hp
 have hn := hS.nodup hk
 have h2 := dAt_of_mem hn hp
 rw [hS.keys, keys_mk] at h1
 rcases zC.mp h1 with e | h1
 ·have h3 := dAt_of_mem hn hS.type
  rw [e, h3] at h2
  exact .inl (Prod.ext e (Option.some.inj h2).symm)
 ·rcases zC.mp h1 with e | h1
  ·obtain ⟨n, hn2⟩ := hS.time
   have h3 := dAt_of_mem hn hn2
   rw [e, h3] at h2
   exact .inr (.inl ⟨n, Prod.ext e (Option.some.inj h2).symm⟩)
  ·exact .inr (.inr h1)
theorem Entries.made : madeD k S = S :=
 made_of hk (hS.nodup hk) (hS.nodup hk) hS.keys (fun p hp => hS.keys ▸ List.mem_map_of_mem hp) (fun p hp => hp) hS.type
theorem Entries.len : S.length <= 5 := by
 have := congrArg List.length hS.keys
 rw [keys_mk] at this
 unfold keysOf at this
 rw [List.length_map] at this
 have := (kind_ok hk).few
 simp only [List.length_cons] at *
 omega
theorem Entries.sx (h : (kname k == oS "sysex") = true) : ∃ ns : List Int, (dAt S (oS "data") = some (.tup ns) ∨ dAt S (oS "data") = some (.lst ns)) /\ ns.length <= 10 := by
 have hkeys := (kind_ok hk).sxKeys h
 have hm : oS "data" ∈ keysOf S := by rw [hS.keys, keys_mk, hkeys]; exact .tail _ (.tail _ (.head _))
 obtain ⟨p, hp, e⟩ := List.mem_map.mp hm
 have he := hS.each p hp (by rw [e, hkeys]; exact .head _)
 rw [e, if_pos n_dd] at he
 obtain ⟨ns, h1, h2, _⟩ := he
 have h3 := dAt_of_mem (hS.nodup hk) hp
 rw [e] at h3
 exact ⟨ns, h1.imp (fun z => by rw [h3, z]) fun z => by rw [h3, z], h2⟩
end
end
theorem okV_type {k : Nat} (hk : k < 18) : okV (oS "type") (.str (kname k)) := by
 have h : (oS "type" == oS "channel") = false /\ (oS "type" == oS "data") = false /\ (oS "type" == oS "frame_type") = false /\ (oS "type" == oS "frame_value") = false /\ (oS "type" == oS "pitch") = false /\ (oS "type" == oS "pos") = false /\ (oS "type" == oS "time") = false /\ (oS "type" == oS "type") = true := by decide +kernel
 unfold okV
 simp only [h.1, h.2.1, h.2.2.1, h.2.2.2.1, h.2.2.2.2.1, h.2.2.2.2.2.1, h.2.2.2.2.2.2.1, h.2.2.2.2.2.2.2, Bool.false_eq_true, if_false, if_true]
 exact ⟨k, hk, rfl⟩
theorem okV_time (n : Int) : okV (oS "time") (.int n) := by
 have h : (oS "time" == oS "channel") = false /\ (oS "time" == oS "data") = false /\ (oS "time" == oS "frame_type") = false /\ (oS "time" == oS "frame_value") = false /\ (oS "time" == oS "pitch") = false /\ (oS "time" == oS "pos") = false /\ (oS "time" == oS "time") = true := by decide +kernel
 unfold okV
 simp only [h.1, h.2.1, h.2.2.1, h.2.2.2.1, h.2.2.2.2.1, h.2.2.2.2.2.1, h.2.2.2.2.2.2, Bool.false_eq_true, if_false, if_true]
 exact ⟨n, rfl⟩
theorem okV_data {ns : List Int} (h : ∀ n ∈ ns, 0 <= n /\ n <= 127) : okV (oS "data") (.tup ns) := by
 unfold okV
 rw [if_neg (by decide +kernel), if_pos n_dd]
 exact ⟨ns, rfl, h⟩
theorem any_anames {k : Nat} {key : Str} (h : key = oS "type" ∨ key = oS "time" ∨ key ∈ vnames k) : (anames k).any (· == key) = true := by
 refine List.any_eq_true.mpr ⟨key, ?_, beq_self_eq_true _⟩
 unfold anames
 rcases h with rfl | rfl | h
 ·exact zR _ (.head _)
 ·exact zR _ (.tail _ (.head _))
 ·exact zL _ h
section
variable {k : Nat} {S : FD} (hk : k < 18) (hS : Entries k S)
include hk hS
theorem Entries.plain {p : Str × FV} (hp : p ∈ S) (hd : p.1 ≠ oS "data") : tv p.2 = p.2 /\ pv p.2 = p.2 := by
 rcases hS.cases hk hp with rfl | ⟨n, rfl⟩ | hm
 ·exact ⟨rfl, rfl⟩
 ·exact ⟨rfl, rfl⟩
 ·have he := hS.each p hp hm
  rw [if_neg (fun e => hd (beq_iff_eq.mp e))] at he
  obtain ⟨⟨n, e⟩, _⟩ := he
  rw [e]; exact ⟨rfl, rfl⟩
theorem Entries.nodata (h : ¬ (kname k == oS "sysex") = true) {p : Str × FV} (hp : p ∈ S) : p.1 ≠ oS "data" := fun e => by
 rcases hS.cases hk hp with rfl | ⟨n, rfl⟩ | hm
 ·exact absurd (show oS "type" = oS "data" from e) (by decide +kernel)
 ·exact absurd (show oS "time" = oS "data" from e) (by decide +kernel)
 ·rw [e] at hm
  have := (kind_ok hk).sx
  rw [List.contains_iff_mem.mpr hm] at this
  exact h this
theorem Entries.dataOf (h : (kname k == oS "sysex") = true) : ∃ ns : List Int, Mine.dataOf S = ns /\ (dAt S (oS "data") = some (.tup ns) ∨ dAt S (oS "data") = some (.lst ns)) /\ ns.length <= 10 := by
 obtain ⟨ns, h1, h2⟩ := hS.sx hk h
 refine ⟨ns, ?_, h1, h2⟩
 unfold Mine.dataOf
 rcases h1 with h1 | h1 <;> rw [h1]
theorem Entries.init : initD k S = tf S := by
 unfold initD
 rw [hS.made hk]
 have hn := hS.nodup hk
 split
 ·rename_i h
  obtain ⟨ns, e1, e2, _⟩ := hS.dataOf hk h
  have hm : oS "data" ∈ keysOf S := by rcases e2 with e2 | e2 <;> exact key_of_dAt e2
  refine fd_ext ((keys_put hm).trans (keys_map tv S).symm) ((keys_put hm).symm ▸ hn) fun key hkey => ?_
  rw [keys_put hm] at hkey
  rw [dAt_put, dAt_map, e1]
  by_cases e : oS "data" = key
  ·rw [if_pos e, <- e]
   rcases e2 with e2 | e2 <;> rw [e2] <;> rfl
  ·rw [if_neg e]
   obtain ⟨p, hp, rfl⟩ := List.mem_map.mp hkey
   rw [dAt_of_mem hn hp]
   show some p.2 = some (tv p.2)
   rw [(hS.plain hk hp fun z => e z.symm).1]
 ·rename_i h
  exact (map_same fun p hp => (hS.plain hk hp (hS.nodata hk h hp)).1).symm
theorem Entries.dict : dictD (tf S) = lf S := by
 have hn := hS.nodup hk
 have ht : dAt (tf S) (oS "type") = some (.str (kname k)) := by rw [dAt_map, dAt_of_mem hn hS.type]; rfl
 unfold dictD
 rw [ht]
 split
 ·rename_i h
  have h : (kname k == oS "sysex") = true := by
   have := Option.some.inj h
   injection this with e
   exact beq_iff_eq.mpr e
  obtain ⟨ns, e1, e2, _⟩ := hS.dataOf hk h
  have hm : oS "data" ∈ keysOf (tf S) := by rw [keys_map]; rcases e2 with e2 | e2 <;> exact key_of_dAt e2
  have hd : dAt (tf S) (oS "data") = some (.tup ns) := by rw [dAt_map]; rcases e2 with e2 | e2 <;> rw [e2] <;> rfl
  have hq : dSeq (tf S) (oS "data") = ns := by unfold dSeq; rw [hd]
  refine fd_ext ((keys_put hm).trans ((keys_map tv S).trans (keys_map pv S).symm)) (by rw [keys_put hm, keys_map]; exact hn) fun key hkey => ?_
  rw [keys_put hm, keys_map] at hkey
  rw [dAt_put, dAt_map, dAt_map, hq]
  by_cases e : oS "data" = key
  ·rw [if_pos e, <- e]
   rcases e2 with e2 | e2 <;> rw [e2] <;> rfl
  ·rw [if_neg e]
   obtain ⟨p, hp, rfl⟩ := List.mem_map.mp hkey
   rw [dAt_of_mem hn hp]
   show some (tv p.2) = some (pv p.2)
   obtain ⟨z1, z2⟩ := hS.plain hk hp fun z => e z.symm
   rw [z1, z2]
 ·rename_i h
  have h : ¬ (kname k == oS "sysex") = true := fun z => h (by rw [beq_iff_eq.mp z])
  rw [show tf S = S from map_same fun p hp => (hS.plain hk hp (hS.nodata hk h hp)).1, show lf S = S from map_same fun p hp => (hS.plain hk hp (hS.nodata hk h hp)).2]
theorem Entries.okMsg : OkMsg k (tf S) := by
 refine ⟨by rw [dAt_map, dAt_of_mem (hS.nodup hk) hS.type]; rfl, fun p hp => ?_⟩
 obtain ⟨q, hq, rfl⟩ := List.mem_map.mp hp
 rcases hS.cases hk hq with rfl | ⟨n, rfl⟩ | hm
 ·exact ⟨any_anames (.inl rfl), okV_type hk⟩
 ·exact ⟨any_anames (.inr (.inl rfl)), okV_time n⟩
 ·refine ⟨any_anames (.inr (.inr hm)), ?_⟩
  have he := hS.each q hq hm
  by_cases hd : (q.1 == oS "data") = true
  ·rw [if_pos hd] at he
   obtain ⟨ns, e, _, hall⟩ := he
   show okV q.1 (tv q.2)
   rw [beq_iff_eq.mp hd]
   rcases e with e | e <;> rw [e] <;> exact okV_data hall
  ·rw [if_neg hd] at he
   obtain ⟨⟨n, e⟩, ho⟩ := he
   show okV q.1 (tv q.2)
   rw [e] at ho ⊢
   exact ho
theorem Entries.kw : KwOk k S := by
 refine ⟨dAt_of_mem (hS.nodup hk) hS.type, fun p hp => ?_, Nat.le_trans (hS.len hk) (by decide), fun h => ?_⟩
 ·rcases hS.cases hk hp with rfl | ⟨n, rfl⟩ | hm
  ·show ([oS "self", oS "kind", oS "skip_checks"].contains (oS "type")) = false
   decide +kernel
  ·show ([oS "self", oS "kind", oS "skip_checks"].contains (oS "time")) = false
   decide +kernel
  ·exact (kind_ok hk).free _ hm
 ·rw [hS.made hk]
  obtain ⟨ns, e1, e2, e3⟩ := hS.dataOf hk h
  rw [e1]
  exact ⟨e2.symm, Nat.le_trans e3 (by decide)⟩
theorem Entries.dictOk : DictOk (tf S) := by
 have hn := hS.nodup hk
 have ht : dAt (tf S) (oS "type") = some (.str (kname k)) := by rw [dAt_map, dAt_of_mem hn hS.type]; rfl
 refine ⟨⟨_, ht⟩, by rw [List.length_map]; exact Nat.le_trans (hS.len hk) (by decide), fun h => ?_⟩
 rw [ht] at h
 have h : (kname k == oS "sysex") = true := by
  have := Option.some.inj h
  injection this with e
  exact beq_iff_eq.mpr e
 obtain ⟨ns, e1, e2, e3⟩ := hS.dataOf hk h
 have hd : dAt (tf S) (oS "data") = some (.tup ns) := by rw [dAt_map]; rcases e2 with e2 | e2 <;> rw [e2] <;> rfl
 have hq : dSeq (tf S) (oS "data") = ns := by unfold dSeq; rw [hd]
 rw [hq]
 exact ⟨hd, Nat.le_trans e3 (by decide)⟩
theorem Entries.noLst : NoLst (tf S) := fun p hp ns e => by
 obtain ⟨q, _, rfl⟩ := List.mem_map.mp hp
 revert e
 show tv q.2 ≠ _
 cases q.2 <;> simp [tv]
end
theorem first_eq {c : Nat} {a a' b b' : List Nat} (h1 : c ∉ a) (h2 : c ∉ a') (h : a ++ c :: b = a' ++ c :: b') : a = a' /\ b = b' := by
 induction a generalizing a' with
 | nil =>
  cases a' with
  | nil => exact ⟨rfl, (List.cons.inj h).2⟩
  | cons x a' => exact absurd ((List.cons.inj h).1 ▸ .head _) h2
 | cons x a ih =>
  cases a' with
  | nil => exact absurd ((List.cons.inj h).1 ▸ .head _) h1
  | cons y a' =>
   obtain ⟨e1, e2⟩ := List.cons.inj h
   obtain ⟨e3, e4⟩ := ih (fun z => h1 (.tail _ z)) (fun z => h2 (.tail _ z)) e2
   exact ⟨by rw [e1, e3], e4⟩
theorem join_inj {c : Nat} {ws us : List Str} (n1 : ws ≠ []) (n2 : us ≠ []) (h1 : ∀ x ∈ ws, c ∉ x.cps.toList) (h2 : ∀ x ∈ us, c ∉ x.cps.toList) (h : Txt.join ⟨#[c]⟩ ws = Str.join ⟨#[c]⟩ us) : ws = us := by
 induction ws generalizing us with
 | nil => exact absurd rfl n1
 | cons x ws ih =>
 cases us with
 | nil => exact absurd rfl n2
 | cons y us =>
 cases ws with
 | nil =>
  cases us with
  | nil => rw [show x = y from h]
  | cons z us =>
   refine absurd ?_ (h1 x (.head _))
   have e : x = y ++ ⟨#[c]⟩ ++ Str.join ⟨#[c]⟩ (z :: us) := h
   rw [e, cps_app, cps_app]
   exact zL _ (zR _ (.head _))
 | cons w ws =>
  cases us with
  | nil =>
   refine absurd ?_ (h2 y (.head _))
   have e : Txt.join ⟨#[c]⟩ (x :: w :: ws) = y := h
   rw [<- e, join_cons, cps_app, cps_app]
   exact zR _ (.head _)
  | cons z us =>
   have e : Txt.join ⟨#[c]⟩ (x :: w :: ws) = y ++ ⟨#[c]⟩ ++ Str.join ⟨#[c]⟩ (z :: us) := h
   rw [join_cons] at e
   have e := congrArg (fun s => s.cps.toList) e
   simp only [cps_app, List.append_assoc] at e
   obtain ⟨e1, e2⟩ := first_eq (h1 x (.head _)) (h2 y (.head _)) e
   rw [str_eq e1, ih (List.cons_ne_nil _ _) (List.cons_ne_nil _ _) (fun q hq => h1 q (.tail _ hq)) (fun q hq => h2 q (.tail _ hq)) (str_eq e2)]
theorem split_join {c : Nat} {ws : List Str} (hne : ws ≠ []) (h : ∀ x ∈ ws, c ∉ x.cps.toList) : Txt.split (Txt.join ⟨#[c]⟩ ws) ⟨#[c]⟩ = ws := by
 refine (join_inj hne (fun e => ?_) h (fun x hx => StrLaws.split_free _ c x hx) (StrLaws.join_split _ _).symm).symm
 have := split_pos (Txt.join ⟨#[c]⟩ ws) ⟨#[c]⟩
 rw [e] at this; exact absurd this (by decide)
theorem slice_in (J : Str) : Txt.slice (oS "(" ++ J ++ oS ")") (some 1) (some (-1)) = J := by
 have hl : (oS "(" ++ J ++ oS ")").length = J.length + 2 := by
  rw [len_append, len_append]; show 1 + J.length + 1 = _; omega
 have hc : (oS "(" ++ J ++ oS ")").cps.toList.length = J.length + 2 := by rw [<- hl]; show _ = Array.size _; simp
 show StrLaws.sliceText _ _ _ = J
 rw [StrLaws.sliceText_neg_hi _ _ (by decide) (by rw [hl]; omega), StrLaws.sliceText_plain ⟨by decide, by rw [hl]; omega, by rw [hl, hc]; omega⟩]
 refine str_eq ?_
 show ((_ : List Nat).drop 1).take _ = _
 rw [cps_app, cps_app]
 show ((40 :: J.cps.toList ++ [41]).drop 1).take _ = _
 show (J.cps.toList ++ [41]).take _ = _
 rw [hl]
 have hj : J.cps.toList.length = J.length := by show _ = J.cps.size; simp
 exact List.take_left' (by show J.cps.toList.length = _; omega)
noncomputable def nm (x : Str) : Bool := (x.cps.toList.all fun c => c != 61 && (c != 35 && !Unicode.isSpace c)) && (x.length != 0 && decide (x.length <= 20))
noncomputable abbrev Cl (x : Str) : Prop := ∀ c ∈ x.cps.toList, c ≠ 35 /\ Unicode.isSpace c = false
theorem nm_all {k : Nat} (hk : k < 18) : (kname k :: oS "time" :: vnames k).all nm = true := by
 refine lt18 (p := fun k => (kname k :: oS "time" :: vnames k).all nm = true) ⟨?_, ?_, ?_, ?_, ?_, ?_, ?_, ?_, ?_, ?_, ?_, ?_, ?_, ?_, ?_, ?_, ?_, ?_⟩ hk
 all_goals decide +kernel
theorem nm_is {x : Str} (h : nm x = true) : (∀ c ∈ x.cps.toList, c ≠ 61) /\ Cl x /\ x.length ≠ 0 /\ x.length <= 20 := by
 unfold nm at h
 rw [Bool.and_eq_true, Bool.and_eq_true, List.all_eq_true] at h
 have h1 : ∀ c ∈ x.cps.toList, c ≠ 61 /\ c ≠ 35 /\ Unicode.isSpace c = false := fun c hc => by
  have := h.1 c hc
  simpa [Bool.and_eq_true] using this
 exact ⟨fun c hc => (h1 c hc).1, fun c hc => (h1 c hc).2, by simpa using h.2.1, of_decide_eq_true h.2.2⟩
theorem mem_app {a b : Str} {c : Nat} : c ∈ (a ++ b).cps.toList ↔ c ∈ a.cps.toList ∨ c ∈ b.cps.toList := by rw [cps_app]; exact zA
theorem Cl.app {a b : Str} (ha : Cl a) (hb : Cl b) : Cl (a ++ b) := fun c hc => (mem_app.mp hc).elim (ha c) (hb c)
theorem join_all {P : Nat -> Prop} {sep : Str} (hs : ∀ c ∈ sep.cps.toList, P c) {ws : List Str} (h : ∀ x ∈ ws, ∀ c ∈ x.cps.toList, P c) : ∀ c ∈ (Txt.join sep ws).cps.toList, P c := by
 induction ws with
 | nil => exact fun c hc => nomatch hc
 | cons x ws ih =>
  cases ws with
  | nil => exact h x (.head _)
  | cons w ws =>
   intro c hc
   rw [join_cons] at hc
   exact (mem_app.mp hc).elim (h x (.head _) c) fun hc => (mem_app.mp hc).elim (hs c) (ih (fun y hy => h y (.tail _ hy)) c)
theorem int_cl (n : Int) : Cl (intStr n) := fun c hc => ⟨by have := int_signs hc; omega, int_nosp n c hc⟩
section
variable {k : Nat} {V : FD} {when : Int}
theorem EN_val (hk : k < 18) (hV : ValOk2 k V) (hs : Small when) {p : Str × FV} (hp : p ∈ EN V when) : nm p.1 = true /\
  (((p.1 == oS "data") = true /\ ∃ ns : List Int, p.2 = .lst ns /\ ns.length <= 10 /\ ns ≠ [] /\ ∀ n ∈ ns, 0 <= n /\ n <= 127) ∨ ((p.1 == oS "data") = false /\ ∃ n, p.2 = .int n /\ Small n /\ okV p.1 p.2)) := by
 have hn := List.all_eq_true.mp (nm_all hk)
 rcases zA.mp hp with hp | hp
 ·obtain ⟨q, hq, rfl⟩ := List.mem_map.mp hp
  refine ⟨hn _ (.tail _ (.tail _ (hV.keys ▸ (List.mem_map_of_mem hq : q.1 ∈ keysOf V)))), ?_⟩
  have he := hV.each q hq
  cases hd : q.1 == oS "data" with
  | true =>
   rw [if_pos hd] at he
   obtain ⟨ns, e, h⟩ := he
   exact .inl ⟨rfl, ns, by show pv q.2 = _; rw [e]; rfl, h⟩
  | false =>
   rw [if_neg (ne_true_of_eq_false hd)] at he
   obtain ⟨⟨n, e, h⟩, ho⟩ := he
   refine .inr ⟨rfl, n, by show pv q.2 = _; rw [e]; rfl, h, ?_⟩
   show okV q.1 (pv q.2)
   rw [e] at ho ⊢; exact ho
 ·rw [zS.mp hp]
  exact ⟨hn _ (.tail _ (.head _)), .inr ⟨by show (oS "time" == oS "data") = false; decide +kernel, when, rfl, hs, okV_time when⟩⟩
theorem eq_61 : oS "=" = ⟨#[61]⟩ := by decide +kernel
theorem comma_44 : oS "," = ⟨#[44]⟩ := by decide +kernel
theorem starts_par (x : Str) : Txt.startswith (oS "(" ++ x) (oS "(") = true := by
 unfold Txt.startswith
 rw [Bool.and_eq_true, StrLaws.subAt_eq, cps_app]
 refine ⟨decide_eq_true ?_, by show (List.take 1 (40 :: x.cps.toList) == [40]) = true; rfl⟩
 rw [len_append]
 show 0 + 1 <= 1 + _
 omega
structure WordOk (p : Str × FV) : Prop where
 arg : ArgOk (wt p) p.1 p.2
 cl : Cl (wt p)
 some : (wt p).length ≠ 0
 short : (wt p).length <= 3000
 name : nameIn (wt p) = p.1
theorem word_ok (hk : k < 18) (hV : ValOk2 k V) (hs : Small when) {p : Str × FV} (hp : p ∈ EN V when) : WordOk p := by
 obtain ⟨hn, hv⟩ := EN_val hk hV hs hp
 obtain ⟨h61, hcl, h0, h20⟩ := nm_is hn
 have hlen : (wt p).length = p.1.length + (1 + (txt p.2).length) := by unfold wt; rw [len_append, len_append]; rfl
 have key : Cl (txt p.2) /\ (txt p.2).length <= 2002 /\ ParseOk p.1 (txt p.2) p.2 := by
  unfold ParseOk
  rcases hv with ⟨hd, ns, e, hl, hne, hall⟩ | ⟨hd, n, e, hsn, _⟩
  ·rw [if_pos hd, e]
   have hsm : ∀ n ∈ ns, Small n := fun n hn => by have := hall n hn; constructor <;> omega
   have hj := data_len hsm (Nat.le_trans hl (by decide))
   have hin : dataIn (txt (.lst ns)) = ns.map intStr := by
    show Txt.split (Txt.slice (oS "(" ++ Txt.join (oS ",") (ns.map intStr) ++ oS ")") (some 1) (some (-1))) (oS ",") = _
    rw [slice_in, comma_44]
    refine split_join (fun z => hne (List.map_eq_nil_iff.mp z)) fun x hx hc => ?_
    obtain ⟨n, _, rfl⟩ := List.mem_map.mp hx
    have := int_signs hc; omega
   refine ⟨?_, ?_, ?_, ?_, ?_, ?_⟩
   ·refine Cl.app (Cl.app (by decide +kernel) (join_all (by decide +kernel) fun x hx => ?_)) (by decide +kernel)
    obtain ⟨n, _, rfl⟩ := List.mem_map.mp hx
    exact int_cl n
   ·show (oS "(" ++ Txt.join (oS ",") (ns.map intStr) ++ oS ")").length <= _
    rw [len_append, len_append]
    have := hj.2
    show 1 + _ + 1 <= _
    omega
   ·show Txt.startswith (oS "(" ++ _ ++ oS ")") _ = true
    rw [sapp]; exact starts_par _
   ·rw [hin]
    intro x hx
    obtain ⟨n, hn, rfl⟩ := List.mem_map.mp hx
    exact ⟨⟨n, int_reads (hsm n hn)⟩, Nat.le_trans (intStr_len (hsm n hn)) (by decide)⟩
   ·rw [hin, List.length_map]; omega
   ·rw [hin, List.map_map]
    congr 1
    refine ((List.map_congr_left fun n hn => ?_).trans (List.map_id _)).symm
    show (PySem.intText? (intStr n)).getD 0 = n
    rw [int_reads (hsm n hn)]; rfl
  ·rw [if_neg (ne_true_of_eq_false hd), e]
   have := intStr_len hsn
   exact ⟨int_cl n, by show (intStr n).length <= _; omega, n, int_reads hsn, by show (intStr n).length <= _; omega, rfl⟩
 obtain ⟨k1, k2, k3⟩ := key
 refine ⟨⟨_, rfl, (fun h => h61 _ h rfl), by omega, by omega, k3⟩, Cl.app hcl (Cl.app (by decide +kernel) k1), by omega, by omega, ?_⟩
 show (Txt.split (p.1 ++ (oS "=" ++ txt p.2)) (oS "=")).getD 0 _ = p.1
 rw [eq_61, List.getD_eq_getElem?_getD, split_first (fun h => h61 _ h rfl) (by decide)]
 rfl
end
noncomputable def SD (k : Nat) (L : FD) : FD := dMerge (mkD k) L
theorem time_data : (oS "time" == oS "data") = false := by decide +kernel
section
variable {k : Nat} {V L : FD} {when : Int}
theorem mem_mk {p : Str × FV} (hp : p ∈ mkD k) : p = (oS "type", .str (kname k)) ∨ p = (oS "time", .int 0) ∨ (p.1 ∈ vnames k /\ p.2 = mdfl p.1) := by
 rcases zA.mp hp with hp | hp
 ·rcases zC.mp hp with h | hp
  ·exact .inl h
  ·exact .inr (.inl (zS.mp hp))
 ·obtain ⟨key, hm, rfl⟩ := List.mem_map.mp hp
  exact .inr (.inr ⟨hm, rfl⟩)
structure LOk (V : FD) (when : Int) (L : FD) : Prop where
 nodup : (keysOf L).Nodup
 sub : ∀ p ∈ L, p ∈ EN V when
theorem EN_keys (hV : ValOk2 k V) : keysOf (EN V when) = vnames k ++ [oS "time"] := by
 show List.map _ (_ ++ _) = _
 rw [List.map_append, <- hV.keys, <- keys_map pv V]; rfl
theorem EN_key (hV : ValOk2 k V) {p : Str × FV} (hp : p ∈ EN V when) : p.1 = oS "time" ∨ p.1 ∈ vnames k := by
 have h : p.1 ∈ keysOf (EN V when) := List.mem_map_of_mem hp
 rw [EN_keys hV] at h
 exact (zA.mp h).symm.imp zS.mp id
theorem EN_ok (hk : k < 18) (hV : ValOk2 k V) : LOk V when (EN V when) := by
 refine ⟨?_, fun p hp => hp⟩
 rw [EN_keys hV]
 have h := (List.nodup_cons.mp (kind_ok hk).nodup).2
 have h1 := List.nodup_cons.mp h
 refine List.nodup_append.mpr ⟨h1.2, List.nodup_cons.mpr ⟨(fun e => nomatch e), List.nodup_nil⟩, fun x hx y hy e => h1.1 ?_⟩
 rw [<- zS.mp hy, <- e]; exact hx
theorem EN_pv (hk : k < 18) (hV : ValOk2 k V) (hs : Small when) {p : Str × FV} (hp : p ∈ EN V when) : pv p.2 = p.2 := by
 obtain ⟨_, ⟨_, ns, e, _⟩ | ⟨_, n, e, _⟩⟩ := EN_val hk hV hs hp <;> rw [e] <;> rfl
theorem sub_keys (hV : ValOk2 k V) (hL : LOk V when L) : ∀ p ∈ L, p.1 ∈ keysOf (mkD k) := fun p hp => by
 rw [keys_mk]
 rcases EN_key hV (hL.sub p hp) with e | e
 ·rw [e]; exact .tail _ (.head _)
 ·exact .tail _ (.tail _ e)
theorem SD_keys (hV : ValOk2 k V) (hL : LOk V when L) : keysOf (SD k L) = keysOf (mkD k) := keys_merge (sub_keys hV hL)
theorem SD_nodup (hk : k < 18) (hV : ValOk2 k V) (hL : LOk V when L) : (keysOf (SD k L)).Nodup := by rw [SD_keys hV hL]; exact mk_nodup hk
theorem mem_SD (hk : k < 18) (hV : ValOk2 k V) (hL : LOk V when L) {p : Str × FV} (hp : p ∈ SD k L) : p ∈ L ∨ (p.1 ∉ keysOf L /\ p ∈ mkD k) := by
 have h := dAt_of_mem (SD_nodup hk hV hL) hp
 unfold SD at h
 rw [dAt_merge hL.nodup] at h
 cases e : dAt L p.1 with
 | some x => rw [e] at h; cases (show some x = some p.2 from h); exact .inl (mem_of_dAt e)
 | none =>
  rw [e] at h
  refine .inr ⟨fun hm => ?_, mem_of_dAt h⟩
  obtain ⟨x, hx⟩ := dAt_some hm
  rw [e] at hx; cases hx
theorem SD_mem (hk : k < 18) (hV : ValOk2 k V) (hL : LOk V when L) {p : Str × FV} (hp : p ∈ L ∨ (p.1 ∉ keysOf L /\ p ∈ mkD k)) : p ∈ SD k L := by
 refine mem_of_dAt ?_
 unfold SD
 rw [dAt_merge hL.nodup]
 rcases hp with hp | ⟨h1, h2⟩
 ·rw [dAt_of_mem hL.nodup hp]; rfl
 ·rw [dAt_none h1, dAt_of_mem (mk_nodup hk) h2]; rfl
theorem no_type (hk : k < 18) (hV : ValOk2 k V) (hL : LOk V when L) : oS "type" ∉ keysOf L := fun h => by
 obtain ⟨p, hp, e⟩ := List.mem_map.mp h
 have hn := List.nodup_cons.mp (kind_ok hk).nodup
 rcases EN_key hV (hL.sub p hp) with h | h
 ·exact n_ty_ti (e.symm.trans h)
 ·exact hn.1 (.tail _ (e ▸ h))
theorem entries_SD (hk : k < 18) (hV : ValOk2 k V) (hs : Small when) (hL : LOk V when L) : Entries k (SD k L) := by
 refine ⟨SD_keys hV hL, SD_mem hk hV hL (.inr ⟨no_type hk hV hL, .head _⟩), ?_, fun p hp hm => ?_⟩
 ·obtain ⟨x, hx⟩ := dAt_some (D := SD k L) (key := oS "time") (by rw [SD_keys hV hL, keys_mk]; exact .tail _ (.head _))
  have hm := mem_of_dAt hx
  rcases mem_SD hk hV hL hm with h | ⟨_, h⟩
  ·obtain ⟨_, ⟨e, _⟩ | ⟨_, n, e, _⟩⟩ := EN_val hk hV hs (hL.sub _ h)
   ·exact absurd e (ne_true_of_eq_false time_data)
   ·exact ⟨n, by rw [<- show x = .int n from e]; exact hm⟩
  ·have h2 := dAt_of_mem (mk_nodup hk) h
   exact ⟨0, by rw [show FV.int 0 = x from Option.some.inj h2]; exact hm⟩
 ·rcases mem_SD hk hV hL hp with h | ⟨_, h⟩
  ·obtain ⟨_, ⟨e, ns, e2, h3, _, h4⟩ | ⟨e, n, e2, _, h4⟩⟩ := EN_val hk hV hs (hL.sub _ h)
   ·rw [if_pos e]; exact ⟨ns, .inr e2, h3, h4⟩
   ·rw [if_neg (ne_true_of_eq_false e)]; exact ⟨⟨n, e2⟩, h4⟩
  ·rcases mem_mk h with rfl | rfl | ⟨_, e⟩
   ·exact absurd hm (by have := (kind_ok hk).nodup; exact fun z => (List.nodup_cons.mp this).1 (.tail _ z))
   ·exact absurd hm (by have := (kind_ok hk).nodup; exact fun z => (List.nodup_cons.mp (List.nodup_cons.mp this).2).1 z)
   ·cases hd : p.1 == oS "data" with
    | true => rw [if_pos rfl, e]; exact ⟨[], .inl (by unfold mdfl; rw [if_pos hd]), Nat.zero_le _, fun n hn => nomatch hn⟩
    | false =>
     rw [if_neg (by decide), e]
     obtain ⟨n, h1, h2⟩ := (kind_ok hk).dok p.1 hm hd
     exact ⟨⟨n, h1⟩, h2⟩
theorem entries_HT (hk : k < 18) (hV : ValOk2 k V) (when : Int) : Entries k (HT k when ++ V) := by
 refine ⟨keys_HT hV when, .head _, ⟨when, .tail _ (.head _)⟩, fun p hp hm => ?_⟩
 have hn := (kind_ok hk).nodup
 rcases zC.mp hp with rfl | hp
 ·exact absurd hm fun z => (List.nodup_cons.mp hn).1 (.tail _ z)
 rcases zC.mp hp with rfl | hp
 ·exact absurd hm fun z => (List.nodup_cons.mp (List.nodup_cons.mp hn).2).1 z
 have he := hV.each p hp
 split at he
 ·rename_i hd; rw [if_pos hd]
  obtain ⟨ns, h1, h2, _, h3⟩ := he
  exact ⟨ns, .inl h1, h2, h3⟩
 ·rename_i hd; rw [if_neg hd]
  obtain ⟨⟨n, h1, _⟩, h2⟩ := he
  exact ⟨⟨n, h1⟩, h2⟩
theorem V_tv (hV : ValOk2 k V) {p : Str × FV} (hp : p ∈ V) : tv (pv p.2) = p.2 /\ tv p.2 = p.2 := by
 have he := hV.each p hp
 split at he
 ·obtain ⟨ns, e, _⟩ := he; rw [e]; exact ⟨rfl, rfl⟩
 ·obtain ⟨⟨n, e, _⟩, _⟩ := he; rw [e]; exact ⟨rfl, rfl⟩
theorem tf_HT (hV : ValOk2 k V) : tf (HT k when ++ V) = HT k when ++ V := by
 refine map_same fun p hp => ?_
 rcases zC.mp hp with rfl | hp
 ·rfl
 rcases zC.mp hp with rfl | hp
 ·rfl
 exact (V_tv hV hp).2
theorem init_fld (hk : k < 18) (hV : ValOk2 k V) : initD k (V ++ HT k when) = HT k when ++ V := by
 have h := (entries_HT hk hV when).init hk
 unfold initD at h ⊢
 rw [(entries_HT hk hV when).made hk, tf_HT hV] at h
 rw [made_fld hk hV]; exact h
theorem turn2_ok (hk : k < 18) (hV : ValOk2 k V) (hs : Small when) : Turn2 k V (V ++ HT k when) when := by
 have hn := lv_nodup hk hV.keys
 have hF := speaks_fld hk hV (when := when)
 have hM := speaks_HT hk hV (when := when)
 have gF := hF.good hk hV hs
 have gM := hM.good hk hV hs
 have eM := entries_HT hk hV when
 have hw : ∀ x ∈ lwords k V, x.length <= 3000 := fun x hx => by
  rw [lwords_eq] at hx
  obtain ⟨key, hkey, rfl⟩ := List.mem_map.mp hx
  rw [<- hF.word hn (hV.keys ▸ hkey)]
  exact mword_len hk gF key hkey
 have hl : (lwords k V).length <= 3 := by rw [lwords_eq, List.length_map]; exact (kind_ok hk).few
 have hat : ∀ key ∈ vnames k, dAt V key = dAt (V ++ HT k when) key := fun key hm => by
  obtain ⟨p, hp, rfl⟩ := List.mem_map.mp (hV.keys ▸ hm : key ∈ keysOf V)
  rw [dAt_of_mem hn hp, dAt_of_mem hF.nodup (hF.each p hp)]
 have hI : ∀ key ∈ vnames k, dInt V key = dInt (V ++ HT k when) key /\ dSeq V key = dSeq (V ++ HT k when) key := fun key hm => by
  unfold dInt dSeq; rw [hat key hm]; exact ⟨rfl, rfl⟩
 refine ⟨⟨fun hc => ?_, fun key hm hd => ?_, fun key hm hd => ?_⟩, Nat.le_trans hl (by decide), hw, ?_, hs, gF, (hF.text hk hV).1, (hF.text hk hV).2, ?_, ?_, by rw [init_fld hk hV]; exact gM, by rw [init_fld hk hV]; exact (hM.text hk hV).1, by rw [init_fld hk hV]; exact (hM.text hk hV).2⟩
 ·have hm : oS "channel" ∈ vnames k := by unfold vnames; rw [if_pos hc]; exact .head _
  rw [hat _ hm, (hI _ hm).1]
  exact gF.int _ hm (by decide +kernel)
 ·have hm : key ∈ vnames k := zR _ hm
  rw [hat _ hm, (hI _ hm).1]
  exact gF.int _ hm hd
 ·have hm : key ∈ vnames k := zR _ hm
  rw [<- beq_iff_eq.mp hd, hat _ hm, (hI _ hm).2]
  exact gF.seq _ hm hd
 ·unfold toldS
  refine Nat.le_trans (join_len (c := 3000) fun x hx => ?_) (?_ : _ <= 99999)
  ·rcases zC.mp hx with rfl | hx
   ·exact Nat.le_trans (kname_len hk) (by decide)
   ·exact hw x hx
  ·rw [List.length_cons]
   show (_ + 1) * (3000 + 1) <= _
   omega
 ·have K := eM.kw hk
  refine ⟨dAt_of_mem hF.nodup hF.type, fun p hp => K.free p ((zA.mp hp).elim (fun z => zR _ z) fun z => zL _ z), by rw [List.length_append, Nat.add_comm, <- List.length_append]; exact K.len, fun h => ?_⟩
  have := K.seq h
  rw [eM.made hk] at this
  rw [made_fld hk hV]; exact this
 ·rw [init_fld hk hV, <- tf_HT hV (when := when)]; exact eM.okMsg hk
end
section
variable {k : Nat} {V L L2 : FD} {when : Int}
theorem shown_eq (hk : k < 18) (hV : ValOk2 k V) : shownD k V (V ++ HT k when) = lf (V ++ HT k when) := by
 have eM := entries_HT hk hV when
 have sw : ∀ p ∈ V ++ HT k when, p ∈ HT k when ++ V := fun p hp => (zA.mp hp).elim (fun z => zR _ z) fun z => zL _ z
 have hn := fld_nodup hk hV (when := when)
 unfold shownD
 split
 ·rename_i h
  obtain ⟨q, hq, e⟩ := List.mem_map.mp (show oS "data" ∈ keysOf V by rw [hV.keys, (kind_ok hk).sxKeys h]; exact .head _)
  have he := hV.each q hq
  rw [e, if_pos n_dd] at he
  obtain ⟨ns, e2, _⟩ := he
  have a1 := dAt_of_mem (lv_nodup hk hV.keys) hq
  have a2 := dAt_of_mem hn (zL _ hq)
  have hm := key_of_dAt a2
  rw [e, e2] at a1 a2
  rw [e] at hm
  rw [show dSeq V (oS "data") = ns by unfold dSeq; rw [a1]]
  refine fd_ext ((keys_put hm).trans (keys_map pv _).symm) ((keys_put hm).symm ▸ hn) fun key hkey => ?_
  rw [keys_put hm] at hkey
  rw [dAt_put, dAt_map]
  by_cases e3 : oS "data" = key
  ·rw [if_pos e3, <- e3, a2]; rfl
  ·rw [if_neg e3]
   obtain ⟨p, hp, rfl⟩ := List.mem_map.mp hkey
   rw [dAt_of_mem hn hp]
   show some p.2 = some (pv p.2)
   rw [(eM.plain hk (sw p hp) fun z => e3 z.symm).2]
 ·rename_i h
  exact (map_same fun p hp => (eM.plain hk (sw p hp) (eM.nodata hk h (sw p hp))).2).symm
theorem EN_sh {p : Str × FV} (hp : p ∈ EN V when) : p ∈ lf (V ++ HT k when) := by
 show p ∈ List.map _ _
 rw [List.map_append]
 rcases zA.mp hp with hp | hp
 ·exact zL _ hp
 ·rw [zS.mp hp]; exact zR _ (.tail _ (.head _))
theorem sh_at (hk : k < 18) (hV : ValOk2 k V) {p : Str × FV} (hp : p ∈ EN V when) : dAt (lf (V ++ HT k when)) p.1 = some p.2 :=
 dAt_of_mem (by rw [keys_map]; exact fld_nodup hk hV) (EN_sh hp)
theorem args_ok : ∀ {L : FD}, (∀ p ∈ L, WordOk p) -> ArgsOk (L.map wt) L
 | [], _ => .nil
 | p :: L, h => .cons (h p (.head _)).arg (args_ok fun q hq => h q (.tail _ hq))
theorem EN_len (hk : k < 18) (hV : ValOk2 k V) : (EN V when).length <= 4 := by
 have h := congrArg List.length (EN_keys hV (when := when))
 unfold keysOf at h
 rw [List.length_map, List.length_append] at h
 have := (kind_ok hk).few
 rw [h]; show _ + 1 <= 4; omega
theorem text_ok (hk : k < 18) (hV : ValOk2 k V) (hs : Small when) (hL : LOk V when L) (hz : L.length <= 4) {x : Str} (hx : Txt.words x = kname k :: L.map wt) (hl : x.length <= 999999) : TextOk k x (SD k L) :=
 ⟨L.map wt, L, hx, hl, args_ok fun p hp => word_ok hk hV hs (hL.sub p hp), Nat.le_trans hz (by decide), by rw [merge_nil hL.nodup]; rfl⟩
theorem dAt_same {A B : FD} (ha : (keysOf A).Nodup) (hb : (keysOf B).Nodup) (h : ∀ p, p ∈ A ↔ p ∈ B) (key : Str) : dAt A key = dAt B key := by
 cases e : dAt A key with
 | some x => exact (dAt_of_mem hb ((h _).mp (mem_of_dAt e))).symm
 | none =>
  cases e2 : dAt B key with
  | none => rfl
  | some x => rw [dAt_of_mem ha ((h _).mpr (mem_of_dAt e2))] at e; cases e
theorem SD_same (hk : k < 18) (hV : ValOk2 k V) (hL : LOk V when L) (hL2 : LOk V when L2) (h : ∀ p, p ∈ L ↔ p ∈ L2) : SD k L = SD k L2 := by
 refine fd_ext ((SD_keys hV hL).trans (SD_keys hV hL2).symm) (SD_nodup hk hV hL) fun key _ => ?_
 unfold SD
 rw [dAt_merge hL.nodup, dAt_merge hL2.nodup, dAt_same hL.nodup hL2.nodup h]
theorem answer_eq (hk : k < 18) (hV : ValOk2 k V) (hs : Small when) (hL : LOk V when L) : answerD k (lf (V ++ HT k when)) (L.map wt) = lf (SD k L) := by
 have key : ∀ (L A : FD), (∀ p ∈ L, p ∈ EN V when) -> (L.map wt).foldl (putW (lf (V ++ HT k when))) A = dMerge A L := by
  intro L
  induction L with
  | nil => intro A _; rfl
  | cons p L ih =>
   intro A h
   have hp := h p (.head _)
   rw [List.map_cons, List.foldl_cons, ih _ fun q hq => h q (.tail _ hq)]
   unfold putW
   rw [(word_ok hk hV hs hp).name, sh_at hk hV hp]
   rfl
 unfold answerD
 rw [key L _ hL.sub, (kind_ok hk).dfl]
 have hkm : ∀ p ∈ L, p.1 ∈ keysOf (lf (mkD k)) := fun p hp => by rw [keys_map]; exact sub_keys hV hL p hp
 refine fd_ext ((keys_merge hkm).trans ((keys_map pv _).trans ((SD_keys hV hL).symm.trans (keys_map pv _).symm))) ?_ fun key _ => ?_
 ·rw [keys_merge hkm, keys_map]; exact mk_nodup hk
 ·unfold SD
  rw [dAt_merge hL.nodup, dAt_map, dAt_map, dAt_merge hL.nodup]
  cases e : dAt L key with
  | none => rfl
  | some x =>
   show some x = some (pv x)
   rw [EN_pv hk hV hs (hL.sub _ (mem_of_dAt e))]
theorem dEq_refl {A : FD} (hn : (keysOf A).Nodup) : Mine.dEq A A = true := dEq_mem rfl hn fun _ h => h
theorem SD_length (hk : k < 18) (hV : ValOk2 k V) (hL : LOk V when L) : (SD k L).length = (HT k when ++ V).length := by
 have h := congrArg List.length ((SD_keys hV hL).trans (keys_HT hV when).symm)
 unfold keysOf at h
 rwa [List.length_map, List.length_map] at h
theorem SD_EN (hk : k < 18) (hV : ValOk2 k V) (hL : LOk V when (EN V when)) {p : Str × FV} (hp : p ∈ SD k (EN V when)) : p ∈ lf (V ++ HT k when) := by
 rcases mem_SD hk hV hL hp with h | ⟨h, h2⟩
 ·exact EN_sh h
 ·rw [EN_keys hV] at h
  rcases mem_mk h2 with rfl | rfl | ⟨h3, _⟩
  ·show _ ∈ List.map _ _
   rw [List.map_append]
   exact zR _ (.head _)
  ·exact absurd (zR _ (.head _)) h
  ·exact absurd (zL _ h3) h
theorem is_word (hk : k < 18) (hV : ValOk2 k V) (hs : Small when) (hL : LOk V when L) : ∀ x ∈ kname k :: L.map wt, IsWord x /\ Cl x := fun x hx => by
 rcases zC.mp hx with rfl | hx
 ·obtain ⟨_, h1, h2, _⟩ := nm_is (List.all_eq_true.mp (nm_all hk) _ (.head _))
  exact ⟨⟨fun c hc => (h1 c hc).2, h2⟩, h1⟩
 ·obtain ⟨p, hp, rfl⟩ := List.mem_map.mp hx
  have h := word_ok hk hV hs (hL.sub p hp)
  exact ⟨⟨fun c hc => (h.cl c hc).2, h.some⟩, h.cl⟩
theorem sp_e : AllSp Str.empty := fun c hc => nomatch hc
theorem line_words (hk : k < 18) (hV : ValOk2 k V) (hs : Small when) (hL : LOk V when L) {post : Str} (hp : AllSp post) : Txt.words (Txt.join (oS " ") (kname k :: L.map wt) ++ post) = kname k :: L.map wt := by
 have := words_join (sep := oS " ") (pre := Str.empty) (post := post) (by decide +kernel) (by decide +kernel) sp_e hp (fun x hx => (is_word hk hV hs hL x hx).1) (List.cons_ne_nil _ _)
 rwa [s0app] at this
theorem line_len (hk : k < 18) (hV : ValOk2 k V) (hs : Small when) (hL : LOk V when L) (hz : L.length <= 4) {sep : Str} (h3 : sep.length <= 3) : (Txt.join sep (kname k :: L.map wt)).length <= 50000 := by
 refine Nat.le_trans (join_len (c := 3000) fun x hx => ?_) (?_ : _ <= 50000)
 ·rcases zC.mp hx with rfl | hx
  ·exact Nat.le_trans (kname_len hk) (by decide)
  ·obtain ⟨p, hp, rfl⟩ := List.mem_map.mp hx
   exact (word_ok hk hV hs (hL.sub p hp)).short
 ·rw [List.length_cons, List.length_map]
  have h1 : L.length + 1 <= 5 := by omega
  have h2 : 3000 + sep.length <= 3003 := by omega
  exact Nat.le_trans (Nat.mul_le_mul h1 h2) (by decide)
theorem turn3_ok (hk : k < 18) (hV : ValOk2 k V) (hs : Small when) : Turn3 k V (V ++ HT k when) (SD k (EN V when)) when := by
 have T2 := turn2_ok hk hV hs
 have hL := EN_ok hk hV (when := when)
 have hE := entries_SD hk hV hs hL
 have hn := fld_nodup hk hV (when := when)
 have hlen : (V ++ HT k when).length = (HT k when ++ V).length := by rw [List.length_append, List.length_append, Nat.add_comm]
 have hz := EN_len hk hV (when := when)
 refine ⟨T2.tz, hs, ?_, fun h => ?_, ?_, ?_, hE.kw hk, (by rw [hE.init hk]; exact hE.okMsg hk), ?_⟩
 ·rw [hlen]; exact Nat.le_trans ((entries_HT hk hV when).len hk) (by decide)
 ·have hm : oS "data" ∈ kkeys k := by
   have h1 : oS "data" ∈ vnames k := by rw [(kind_ok hk).sxKeys h]; exact .head _
   rcases zA.mp h1 with h1 | h1
   ·split at h1
    ·exact absurd (zS.mp h1) (by decide +kernel)
    ·cases h1
   ·exact h1
  have := T2.good.seq _ hm n_dd
  exact ⟨this.1, this.2.2⟩
 ·refine text_ok hk hV hs hL hz ?_ ?_
  ·have := line_words hk hV hs hL sp_e
   rwa [sapp0, <- full_join hk hV] at this
  ·rw [full_join hk hV]
   exact Nat.le_trans (line_len hk hV hs hL hz (by decide +kernel)) (by decide)
 ·rw [shown_eq hk hV]
  refine dEq_mem ?_ (by rw [keys_map]; exact hn) fun p hp => SD_EN hk hV hL hp
  rw [List.length_map, hlen, SD_length hk hV hL]
 ·rw [init_fld hk hV, hE.init hk]
  refine dEq_mem ?_ (HT_nodup hk hV when) fun p hp => ?_
  ·rw [List.length_map, SD_length hk hV hL]
  ·obtain ⟨q, hq, rfl⟩ := List.mem_map.mp hp
   obtain ⟨r, hr, rfl⟩ := List.mem_map.mp (SD_EN hk hV hL hq)
   show (r.1, tv (pv r.2)) ∈ _
   rcases zA.mp hr with hr | hr
   ·rw [(V_tv hV hr).1]; exact zR _ hr
   ·rcases zC.mp hr with rfl | hr
    ·exact .head _
    ·rw [zS.mp hr]; exact .tail _ (.head _)
theorem turn4_ok (hk : k < 18) (hV : ValOk2 k V) (hs : Small when) (hL : LOk V when L) (hz : L.length <= 4) {text : Str} (ht : text.length <= 999999) (hx : TextOk k (headOf text) (SD k L)) : Turn4 k (lf (V ++ HT k when)) (L.map wt) text (SD k L) := by
 have hE := entries_SD hk hV hs hL
 have hn := hE.nodup hk
 have ha := answer_eq hk hV hs hL
 refine ⟨by rw [List.length_map]; omega, ?_, fun x hm => ?_, fun x hm => ?_, ht, hx, ?_, hE.kw hk, (by rw [hE.init hk]; exact hE.okMsg hk), ?_, ?_⟩
 ·rw [(kind_ok hk).dfl, List.length_map]
  have h := congrArg List.length (keys_mk k)
  unfold keysOf at h
  rw [List.length_map, List.length_cons, List.length_cons] at h
  have := (kind_ok hk).few
  omega
 ·obtain ⟨p, hp, rfl⟩ := List.mem_map.mp hm
  exact Nat.le_trans (word_ok hk hV hs (hL.sub p hp)).short (by decide)
 ·obtain ⟨p, hp, rfl⟩ := List.mem_map.mp hm
  rw [(word_ok hk hV hs (hL.sub p hp)).name]
  exact ⟨_, sh_at hk hV (hL.sub p hp)⟩
 ·rw [ha]
  by_cases h : ∀ p ∈ SD k L, pv p.2 = p.2
  ·left
   rw [show lf (SD k L) = SD k L from map_same h]
   exact dEq_refl hn
  ·right
   obtain ⟨p, h⟩ := Classical.not_forall.mp h
   obtain ⟨hp, h⟩ := Classical.not_imp.mp h
   have hd : p.1 = oS "data" := Classical.byContradiction fun z => h (hE.plain hk hp z).2
   have hsx : isSx k = true := Classical.byContradiction fun z => hE.nodata hk z hp hd
   refine ⟨hsx, ?_⟩
   have h2 := dAt_of_mem hn hp
   rw [hd] at h2
   rw [dAt_map, h2]
   rcases mem_SD hk hV hL hp with h3 | ⟨_, h3⟩
   ·exact absurd (EN_pv hk hV hs (hL.sub _ h3)) h
   ·rcases mem_mk h3 with rfl | rfl | ⟨_, e⟩
    ·exact absurd rfl h
    ·exact absurd rfl h
    ·rw [e, hd]; unfold mdfl; rw [if_pos n_dd]; rfl
 ·rw [hE.init hk]; exact hE.dictOk hk
 ·rw [ha, hE.init hk, hE.dict hk]
  exact dEq_refl (by rw [keys_map]; exact hn)
end
theorem hash_35 : oS "#" = ⟨#[35]⟩ := by decide +kernel
theorem head_free {x : Str} (h : ∀ c ∈ x.cps.toList, c ≠ 35) : headOf x = x := by
 unfold headOf
 rw [hash_35, List.headD_eq_head?_getD, List.head?_eq_getElem?, split_none (fun z => h _ z rfl) (by decide)]
 rfl
theorem head_cut {a b : Str} (h : ∀ c ∈ a.cps.toList, c ≠ 35) : headOf (a ++ (oS "#" ++ b)) = a := by
 unfold headOf
 rw [hash_35, List.headD_eq_head?_getD, List.head?_eq_getElem?, split_first (fun z => h _ z rfl) (by decide)]
 rfl
structure LineGood (k : Nat) (V : FD) (when : Int) (text : Str) (rs : List Str) : Prop where
 ex : ∃ L, rs = L.map wt /\ LOk V when L /\ L.length <= 4 /\ TextOk k (headOf text) (SD k L) /\ (∃ ws, Txt.words (headOf text) = ws /\ ws ≠ [] /\ ∀ x, Txt.words x = ws -> x.length <= 99999 -> TextOk k x (SD k L))
 len : text.length <= 60000
 hlen : (headOf text).length <= 60000
section
variable {k : Nat} {V L L2 : FD} {when : Int}
theorem good_of (hk : k < 18) (hV : ValOk2 k V) (hs : Small when) (hL : LOk V when L) (hz : L.length <= 4) (hL2 : LOk V when L2) (hz2 : L2.length <= 4) (h : ∀ p, p ∈ L ↔ p ∈ L2) {text : Str} (hw : Txt.words (headOf text) = kname k :: L2.map wt) (hl : text.length <= 60000) (hl2 : (headOf text).length <= 60000) : LineGood k V when text (L.map wt) := by
 have go : ∀ x, Txt.words x = kname k :: L2.map wt -> x.length <= 99999 -> TextOk k x (SD k L) := fun x hx hxl => by
  rw [SD_same hk hV hL hL2 h]
  exact text_ok hk hV hs hL2 hz2 hx (Nat.le_trans hxl (by decide))
 exact ⟨⟨L, rfl, hL, hz, go _ hw (Nat.le_trans hl2 (by decide)), _, hw, List.cons_ne_nil _ _, go⟩, hl, hl2⟩
theorem join_free (hk : k < 18) (hV : ValOk2 k V) (hs : Small when) (hL : LOk V when L) {sep : Str} (h : ∀ c ∈ sep.cps.toList, c ≠ 35) : ∀ c ∈ (Txt.join sep (kname k :: L.map wt)).cps.toList, c ≠ 35 :=
 join_all h fun x hx c hc => ((is_word hk hV hs hL x hx).2 c hc).1
theorem app_free {a b : Str} (ha : ∀ c ∈ a.cps.toList, c ≠ 35) (hb : ∀ c ∈ b.cps.toList, c ≠ 35) : ∀ c ∈ (a ++ b).cps.toList, c ≠ 35 := fun c hc => (mem_app.mp hc).elim (ha c) (hb c)
theorem plain_line (hk : k < 18) (hV : ValOk2 k V) (hs : Small when) (hL : LOk V when L) (hz : L.length <= 4) : LineGood k V when (Txt.join (oS " ") (kname k :: L.map wt)) (L.map wt) := by
 have hf := head_free (join_free hk hV hs hL (sep := oS " ") (by decide +kernel))
 have hl := line_len hk hV hs hL hz (sep := oS " ") (by decide +kernel)
 have hw := line_words hk hV hs hL sp_e
 rw [sapp0] at hw
 exact good_of hk hV hs hL hz hL hz (fun _ => .rfl) (by rw [hf]; exact hw) (Nat.le_trans hl (by decide)) (by rw [hf]; exact Nat.le_trans hl (by decide))
theorem note_line (hk : k < 18) (hV : ValOk2 k V) (hs : Small when) (hL : LOk V when L) (hz : L.length <= 4) : LineGood k V when (Txt.join (oS " ") (kname k :: L.map wt) ++ oS "  # " ++ kname k) (L.map wt) := by
 have hl := line_len hk hV hs hL hz (sep := oS " ") (by decide +kernel)
 have e : Txt.join (oS " ") (kname k :: L.map wt) ++ oS "  # " ++ kname k = (Txt.join (oS " ") (kname k :: L.map wt) ++ oS "  ") ++ (oS "#" ++ (oS " " ++ kname k)) := by
  rw [show oS "  # " = oS "  " ++ (oS "#" ++ oS " ") by decide +kernel]
  simp only [sapp]
 have hf := head_cut (b := oS " " ++ kname k) (app_free (join_free hk hV hs hL (sep := oS " ") (by decide +kernel)) (b := oS "  ") (by decide +kernel))
 rw [<- e] at hf
 have hkl := kname_len hk
 exact good_of hk hV hs hL hz hL hz (fun _ => .rfl) (by rw [hf]; exact line_words hk hV hs hL (by decide +kernel)) (by rw [len_append, len_append]; show _ + 4 + _ <= _; omega) (by rw [hf, len_append]; show _ + 2 <= _; omega)
theorem tab_line (hk : k < 18) (hV : ValOk2 k V) (hs : Small when) (hL : LOk V when L) (hz : L.length <= 4) (hne : L ≠ []) : LineGood k V when (oS "  " ++ kname k ++ oS "\t" ++ Txt.join (oS " \t ") (L.map wt).reverse ++ oS " ") (L.map wt) := by
 have hm : ∀ p, p ∈ L ↔ p ∈ L.reverse := fun p => List.mem_reverse.symm
 have hL2 : LOk V when L.reverse := ⟨by unfold keysOf; rw [List.map_reverse]; exact (List.reverse_perm _).nodup_iff.mpr hL.nodup, fun p hp => hL.sub p ((hm p).mpr hp)⟩
 have hz2 : L.reverse.length <= 4 := by rw [List.length_reverse]; exact hz
 have hW := is_word hk hV hs hL2
 have hkw := hW _ (.head _)
 have hl := line_len hk hV hs hL2 hz2 (sep := oS " \t ") (by decide +kernel)
 rw [<- List.map_reverse]
 have hne2 : L.reverse.map wt ≠ [] := fun z => hne (List.reverse_eq_nil_iff.mp (List.map_eq_nil_iff.mp z))
 obtain ⟨y, ys, ey⟩ := List.exists_cons_of_ne_nil hne2
 have hjl : (Txt.join (oS " \t ") (L.reverse.map wt)).length <= 50000 := by
  rw [ey] at hl ⊢
  rw [join_cons, len_append, len_append] at hl
  omega
 have hfree : ∀ c ∈ (Txt.join (oS " \t ") (L.reverse.map wt)).cps.toList, c ≠ 35 := join_all (by decide +kernel) fun x hx c hc => ((hW x (.tail _ hx)).2 c hc).1
 have hf := head_free (app_free (app_free (app_free (app_free (a := oS "  ") (by decide +kernel) fun c hc => (hkw.2 c hc).1) (b := oS "\t") (by decide +kernel)) hfree) (b := oS " ") (by decide +kernel))
 have hlen : (oS "  " ++ kname k ++ oS "\t" ++ Txt.join (oS " \t ") (L.reverse.map wt) ++ oS " ").length <= 60000 := by
  have := kname_len hk
  rw [len_append, len_append, len_append, len_append]
  show 2 + _ + 1 + _ + 1 <= _
  omega
 refine good_of hk hV hs hL hz hL2 hz2 hm ?_ hlen (by rw [hf]; exact hlen)
 rw [hf]
 simp only [sapp]
 obtain ⟨ini, last, e, hsc⟩ := sc_join (sep := oS " \t ") (by decide +kernel) (by decide +kernel) [kname k] (fun x hx => (hW x (.tail _ hx)).1) hne2
 have hlast := (hW last (.tail _ (by rw [e]; exact zR _ (.head _)))).1
 rw [words_sc, sc_append, sc_append, sc_append, sc_append, sc_blank0 (by decide +kernel), sc_word hkw.1.1, s0app, sc_blank (by decide +kernel) (by decide +kernel) hkw.1.2, List.nil_append, hsc, sc_blank (by decide +kernel) (by decide +kernel) hlast.2]
 show [kname k] ++ ini ++ [last] = _
 rw [e, List.append_assoc]; rfl
theorem line_good (hk : k < 18) (hV : ValOk2 k V) (hs : Small when) {style : Int} {rs : List Str} (h : (lline k (lwords k V) when style).2 = some rs) : LineGood k V when (lline k (lwords k V) when style).1 rs := by
 have hE := EN_ok hk hV (when := when)
 have hz := EN_len hk hV (when := when)
 have hne : EN V when ≠ [] := fun e => by
  have := congrArg List.length e
  unfold EN at this
  rw [List.length_append] at this
  exact absurd this (Nat.succ_ne_zero _)
 unfold lline at h ⊢
 rw [whole_wt hk hV] at h ⊢
 split at h
 ·rename_i c; rw [if_pos c]
  cases (show some _ = some rs from h)
  exact note_line hk hV hs hE hz
 rename_i c1; rw [if_neg c1]
 split at h
 ·rename_i c; rw [if_pos c]
  cases (show some _ = some rs from h)
  exact tab_line hk hV hs hE hz hne
 rename_i c2; rw [if_neg c2]
 split at h
 ·rename_i c; rw [if_pos c]
  cases (show some _ = some rs from h)
  have hidx : (Int.fmod when (wholeOf (lwords k V) when).length).toNat < (EN V when).length := by
   rw [whole_wt hk hV, List.length_map]
   have h0 : (0 : Int) < ((EN V when).length : Int) := by have := List.length_pos_iff.mpr hne; omega
   have h1 := Int.fmod_nonneg_of_pos when h0
   have h2 := Int.fmod_lt_of_pos when h0
   omega
  have hp : ∃ p ∈ EN V when, picked (lwords k V) when = wt p := by
   unfold picked
   generalize (Int.fmod when (wholeOf (lwords k V) when).length).toNat = j at hidx
   refine ⟨(EN V when)[j], List.getElem_mem hidx, ?_⟩
   rw [whole_wt hk hV, List.getD_eq_getElem?_getD, List.getElem?_map, List.getElem?_eq_getElem hidx]
   rfl
  obtain ⟨p, hp, e⟩ := hp
  rw [e]
  have hL : LOk V when [p] := ⟨List.nodup_cons.mpr ⟨(fun z => nomatch z), List.nodup_nil⟩, fun q hq => by rw [zS.mp hq]; exact hp⟩
  have := plain_line hk hV hs hL (Nat.succ_le_succ (Nat.zero_le _))
  rw [show Txt.join (oS " ") (kname k :: [p].map wt) = kname k ++ oS " " ++ wt p by rw [sapp]; exact join_cons _ _ _ _] at this
  exact this
 rename_i c3; rw [if_neg c3]
 split at h
 ·cases h
 rename_i c4; rw [if_neg c4]
 split at h
 ·cases h
 rename_i c5; rw [if_neg c5]
 split at h
 ·cases h
 rename_i c6; rw [if_neg c6]
 cases (show some _ = some rs from h)
 exact plain_line hk hV hs hE hz
theorem turn5_ok (hk : k < 18) (hV : ValOk2 k V) (hs : Small when) (style : Int) : Turn5 k V (lf (V ++ HT k when)) when style := by
 have T2 := turn2_ok hk hV hs
 refine ⟨T2.few, T2.short, hs, T2.tz, fun rs h => ?_⟩
 have G := line_good hk hV hs h
 obtain ⟨L, rfl, hL, hz, hx, _⟩ := G.ex
 exact ⟨_, turn4_ok hk hV hs hL hz (Nat.le_trans G.len (by decide)) hx⟩
end
theorem turn_ok (n0 n1 n2 n3 : Int) : TurnOk n0 n1 n2 n3 := by
 have hk := kOf_lt n0
 have hV := val_ok n0 n1 n2 n3
 have hs := whenOf_small n3
 refine ⟨turn1_ok n0 n1 n2 n3, ?_, ⟨SD (kOf n0) (EN (valD (kOf n0) n1 n2 n3) (whenOf n3)), ?_⟩, ?_⟩
 ·rw [fld_eq hk hV]; exact turn2_ok hk hV hs
 ·rw [fld_eq hk hV]; exact turn3_ok hk hV hs
 ·rw [fld_eq hk hV, shown_eq hk hV]; exact turn5_ok hk hV hs _
theorem strip_len (x : Str) : (Txt.strip x).length <= x.length := by
 obtain ⟨pre, post, e, _⟩ := strip_parts x
 have h := congrArg Str.length e
 rw [len_append, len_append] at h
 omega
theorem some_len {x : Str} (h : Txt.words x ≠ []) : x.length ≠ 0 := fun e => h (by
 have : x.cps.toList.length = 0 := by simpa [Str.length] using e
 have : x = Str.empty := str_eq (by rw [List.length_eq_zero_iff.mp this]; rfl)
 rw [this]; decide +kernel)
theorem GivesC.more {w : World} {f : Addr} {D U D' U' : Nat} {vs : List Value} {kw : List (Str × Value)} {news : List (Addr × Obj)} {X : String} (h : GivesC w f D U vs kw news X) (hd : D <= D') (hu : U <= U') : GivesC w f D' U' vs kw news X := fun A base env outer hZ L m s R a F N hr => h A base env outer hZ L m s R (a.less hd hu) F N hr
section
variable {w : World} {k : Nat} {V : FD} {when : Int}
theorem out_good (hk : k < 18) (hV : ValOk2 k V) (hs : Small when) {text : Str} {rs : List Str} (G : LineGood k V when text rs) : ∃ D, LineOut w (stripped text) (some (some D)) /\ DictOk D /\ NoLst D /\ dEq (dictD D) (answerD k (lf (V ++ HT k when)) rs) = true := by
 obtain ⟨L, rfl, hL, hz, _, ws, h1, h2, h3⟩ := G.ex
 have hE := entries_SD hk hV hs hL
 have hw : Txt.words (stripped text) = ws := (words_strip _).trans h1
 have hl : (stripped text).length <= 60000 := Nat.le_trans (strip_len _) G.hlen
 refine ⟨initD k (SD k L), .good (some_len (by rw [hw]; exact h2)) (Nat.le_trans hl (by decide)) fun news t => parse_string_ok w news hk (h3 _ hw (Nat.le_trans hl (by decide))) (hE.kw hk) (by rw [hE.init hk]; exact hE.okMsg hk), ?_, ?_, ?_⟩
 ·rw [hE.init hk]; exact hE.dictOk hk
 ·rw [hE.init hk]; exact hE.noLst hk
 ·rw [answer_eq hk hV hs hL, hE.init hk, hE.dict hk]
  exact dEq_refl (by rw [keys_map]; exact hE.nodup hk)
theorem two_words (hk : k < 18) {x : Str} (hx : IsWord x) (hc : Cl x) (hl : x.length <= 900) : headOf (kname k ++ oS " " ++ x) = kname k ++ oS " " ++ x /\ Txt.words (stripped (kname k ++ oS " " ++ x)) = [kname k, x] /\ (stripped (kname k ++ oS " " ++ x)).length <= 999 /\ (kname k ++ oS " " ++ x).length <= 999 := by
 obtain ⟨_, h1, h2, _⟩ := nm_is (List.all_eq_true.mp (nm_all hk) _ (.head _))
 have hf : headOf (kname k ++ oS " " ++ x) = kname k ++ oS " " ++ x := head_free (app_free (app_free (fun c hc => (h1 c hc).1) (b := oS " ") (by decide +kernel)) fun c h => (hc c h).1)
 have hlen : (kname k ++ oS " " ++ x).length <= 999 := by
  have := kname_len hk
  rw [len_append, len_append]; show _ + 1 + _ <= _; omega
 refine ⟨hf, ?_, Nat.le_trans (strip_len _) (by rw [show (Txt.split _ _).headD default = _ from hf]; exact hlen), hlen⟩
 unfold stripped
 rw [words_strip, show (Txt.split _ _).headD default = _ from hf]
 have := words_join (sep := oS " ") (pre := Str.empty) (post := Str.empty) (ws := [kname k, x]) (by decide +kernel) (by decide +kernel) sp_e sp_e (fun y hy => by
  rcases zC.mp hy with rfl | hy
  ·exact ⟨fun c hc => (h1 c hc).2, h2⟩
  ·rw [zS.mp hy]; exact hx) (List.cons_ne_nil _ _)
 rw [s0app, sapp0, show Txt.join (oS " ") [kname k, x] = kname k ++ oS " " ++ x by rw [sapp]; exact join_cons _ _ _ _] at this
 exact this
theorem out_bad (hk : k < 18) {n v : Str} (hn : nm n = true) (hv : IsWord v) (hc : Cl v) (hvl : v.length <= 99) (hb : BadArg n v) : LineOut w (stripped (kname k ++ oS " " ++ (n ++ (oS "=" ++ v)))) (some none) := by
 obtain ⟨h61, h1, h2, h20⟩ := nm_is hn
 have hcl : Cl (n ++ (oS "=" ++ v)) := Cl.app h1 (Cl.app (by decide +kernel) hc)
 have hlen : (n ++ (oS "=" ++ v)).length = n.length + (1 + v.length) := by rw [len_append, len_append]; rfl
 obtain ⟨_, hw, hl, _⟩ := two_words hk ⟨fun c hc => (hcl c hc).2, by omega⟩ hcl (by omega)
 refine .bad (some_len (by rw [hw]; exact List.cons_ne_nil _ _)) (Nat.le_trans hl (by decide)) fun news t => ?_
 exact GivesC.more (parse_string_bad w news fun news t => from_str_bad w news fun news t => str2msg_bad w news hw (Nat.le_trans hl (by decide)) (Nat.zero_le _) (fun h => h61 _ h rfl) (Nat.le_trans hvl (by decide)) (by omega) hb) (by decide) (by decide)
theorem bad_x : Bad (oS "x") := ⟨by kernel_rfl, by decide +kernel, by decide +kernel⟩
theorem bad_noon : Bad (oS "noon") := ⟨by kernel_rfl, by decide +kernel, by decide +kernel⟩
theorem bad_e : Bad Str.empty := ⟨by kernel_rfl, by decide +kernel, by decide +kernel⟩
noncomputable def D5 (k : Nat) : FD := dMerge (mkD k) (dMerge [] [(oS "colour", .int 3)])
theorem d5_all (hk : k < 18) : (initD k (D5 k) = tf (mkD k) ++ [(oS "colour", .int 3)] /\ (anames k).any (· == oS "colour") = false /\ dAt (D5 k) (oS "type") = some (.str (kname k)) /\ dAt (initD k (D5 k)) (oS "type") = some (.str (kname k))) /\
  (∀ p ∈ D5 k, ([oS "self", oS "kind", oS "skip_checks"].contains p.1) = false) /\ (D5 k).length <= 20 /\ ((kname k == oS "sysex") = true -> dAt (madeD k (D5 k)) (oS "data") = some (.tup (dataOf (madeD k (D5 k)))) /\ (dataOf (madeD k (D5 k))).length <= 99) := by
 refine lt18 (p := fun k => (initD k (D5 k) = tf (mkD k) ++ [(oS "colour", .int 3)] /\ (anames k).any (· == oS "colour") = false /\ dAt (D5 k) (oS "type") = some (.str (kname k)) /\ dAt (initD k (D5 k)) (oS "type") = some (.str (kname k))) /\
  (∀ p ∈ D5 k, ([oS "self", oS "kind", oS "skip_checks"].contains p.1) = false) /\ (D5 k).length <= 20 /\ ((kname k == oS "sysex") = true -> dAt (madeD k (D5 k)) (oS "data") = some (.tup (dataOf (madeD k (D5 k)))) /\ (dataOf (madeD k (D5 k))).length <= 99)) ⟨?_, ?_, ?_, ?_, ?_, ?_, ?_, ?_, ?_, ?_, ?_, ?_, ?_, ?_, ?_, ?_, ?_, ?_⟩ hk
 all_goals decide +kernel
theorem out_name (hk : k < 18) (hV : ValOk2 k V) (hs : Small when) : LineOut w (stripped (kname k ++ oS " " ++ oS "colour=3")) (some none) := by
 obtain ⟨_, hw, hl, _⟩ := two_words hk (x := oS "colour=3") (by decide +kernel) (by decide +kernel) (by decide +kernel)
 obtain ⟨⟨h1, h2, h3, h4⟩, h5, h6, h7⟩ := d5_all hk
 have hE := entries_SD hk hV hs (L := []) (when := when) ⟨List.nodup_nil, fun p hp => nomatch hp⟩
 have hok := hE.okMsg hk
 have htx : TextOk k (stripped (kname k ++ oS " " ++ oS "colour=3")) (D5 k) := by
  refine ⟨[oS "colour=3"], [(oS "colour", .int 3)], hw, Nat.le_trans hl (by decide), .cons ⟨oS "3", by decide +kernel, by decide +kernel, by decide +kernel, by decide +kernel, ?_⟩ .nil, by decide, rfl⟩
  unfold ParseOk
  rw [if_neg (by decide +kernel)]
  exact ⟨3, int_reads (n := 3) (by decide), by decide +kernel, rfl⟩
 refine .bad (some_len (by rw [hw]; exact List.cons_ne_nil _ _)) (Nat.le_trans hl (by decide)) fun news t => parse_string_bad w news fun news t => from_str_name w news hk htx ⟨h3, h5, h6, fun h => ⟨.inr (h7 h).1, (h7 h).2⟩⟩ (i := (tf (mkD k)).length) ⟨h4, ⟨oS "colour", .int 3, ?_, h2, by decide +kernel⟩, fun j p hj hp => ?_⟩
 ·rw [h1, List.getElem?_append_right (Nat.le_refl _), Nat.sub_self]; rfl
 ·rw [h1, List.getElem?_append_left hj] at hp
  exact hok.each p (List.mem_of_getElem? hp)
theorem out_none (hk : k < 18) (hV : ValOk2 k V) (hs : Small when) {style : Int} (h : (lline k (lwords k V) when style).2 = none) : LineOut w (stripped (lline k (lwords k V) when style).1) (some none) /\ (lline k (lwords k V) when style).1.length <= 999 := by
 unfold lline at h ⊢
 split at h
 ·cases h
 rename_i c1; rw [if_neg c1]
 split at h
 ·cases h
 rename_i c2; rw [if_neg c2]
 split at h
 ·cases h
 rename_i c3; rw [if_neg c3]
 split at h
 ·rename_i c; rw [if_pos c]
  have e : kname k ++ oS " time=noon" = kname k ++ oS " " ++ (oS "time" ++ (oS "=" ++ oS "noon")) := by
   rw [show oS " time=noon" = oS " " ++ (oS "time" ++ (oS "=" ++ oS "noon")) by decide +kernel, sapp]
  show LineOut w (stripped (kname k ++ oS " time=noon")) _ /\ (kname k ++ oS " time=noon").length <= _
  rw [e]
  refine ⟨out_bad hk (by decide +kernel) (by decide +kernel) (by decide +kernel) (by decide +kernel) (by unfold BadArg; rw [if_neg (ne_true_of_eq_false time_data)]; exact bad_noon), ?_⟩
  have := kname_len hk
  rw [len_append, len_append]; show _ + 1 + 9 <= _; omega
 rename_i c4; rw [if_neg c4]
 split at h
 ·rename_i c; rw [if_pos c]
  have e : kname k ++ oS " colour=3" = kname k ++ oS " " ++ oS "colour=3" := by
   rw [show oS " colour=3" = oS " " ++ oS "colour=3" by decide +kernel, sapp]
  show LineOut w (stripped (kname k ++ oS " colour=3")) _ /\ (kname k ++ oS " colour=3").length <= _
  rw [e]
  refine ⟨out_name hk hV hs, ?_⟩
  have := kname_len hk
  rw [len_append, len_append]; show _ + 1 + 8 <= _; omega
 rename_i c5; rw [if_neg c5]
 split at h
 ·rename_i c; rw [if_pos c]
  rw [Bool.and_eq_true] at c
  have hp : 0 < (lwords k V).length := by have := of_decide_eq_true c.2; omega
  obtain ⟨p, hp, e⟩ : ∃ p ∈ EN V when, (lwords k V).getD 0 Str.empty = wt p := by
   rw [lwords_wt hk hV, List.length_map] at hp
   refine ⟨(lf V)[0], zL _ (List.getElem_mem hp), ?_⟩
   rw [lwords_wt hk hV, List.getD_eq_getElem?_getD, List.getElem?_map, List.getElem?_eq_getElem hp]; rfl
  show LineOut w (stripped (kname k ++ oS " " ++ nameIn ((lwords k V).getD 0 Str.empty) ++ oS "=x")) _ /\ (kname k ++ oS " " ++ nameIn ((lwords k V).getD 0 Str.empty) ++ oS "=x").length <= _
  obtain ⟨hn, _⟩ := EN_val hk hV hs hp
  rw [e, (word_ok hk hV hs hp).name, sapp (kname k ++ oS " "), show oS "=x" = oS "=" ++ oS "x" by decide +kernel]
  refine ⟨out_bad hk hn (by decide +kernel) (by decide +kernel) (by decide +kernel) ?_, ?_⟩
  ·unfold BadArg
   split
   ·exact ⟨by decide +kernel, by decide +kernel, Str.empty, [], by decide +kernel, bad_e⟩
   ·exact bad_x
  ·have := kname_len hk
   have := (nm_is hn).2.2.2
   rw [len_append, len_append, len_append, len_append]; show _ + 1 + (_ + (1 + 1)) <= _; omega
 ·cases h
theorem quiet_skip {n2 : Int} {told : Str} (ht : told.length <= 99999) : ∀ x ∈ quietOf n2 told, (stripped x).length = 0 /\ x.length <= 999999 := fun x hx => by
 unfold quietOf at hx
 split at hx
 ·rw [zS.mp hx]
  generalize (Int.fmod (Int.fdiv n2 3) 3).toNat = j
  match j with
  | 0 => exact ⟨by show (stripped (oS "")).length = 0; decide +kernel, by show (oS "").length <= _; decide +kernel⟩
  | 1 => exact ⟨by show (stripped (oS "   ")).length = 0; decide +kernel, by show (oS "   ").length <= _; decide +kernel⟩
  | 2 =>
   show (stripped (oS "# " ++ told)).length = 0 /\ (oS "# " ++ told).length <= 999999
   refine ⟨?_, by rw [len_append]; show 2 + _ <= _; omega⟩
   have h := head_cut (a := Str.empty) (b := oS " " ++ told) (fun c hc => nomatch hc)
   rw [s0app, <- sapp, show oS "#" ++ oS " " = oS "# " by decide +kernel] at h
   unfold stripped
   rw [show (Txt.split _ _).headD default = _ from h]
   decide +kernel
  | n + 3 => exact ⟨by show (stripped Str.empty).length = 0; decide +kernel, by show (Str.empty).length <= _; decide +kernel⟩
 ·cases hx
end
inductive Outs (w : World) : List Str -> List (Option (Option FD)) -> Prop
 | nil : Outs w [] []
 | cons {x : Str} {o : Option (Option FD)} {xs : List Str} {os : List (Option (Option FD))} : LineOut w (stripped x) o -> x.length <= 999999 -> Outs w xs os -> Outs w (x :: xs) (o :: os)
section
variable {w : World} {xs ys : List Str} {os us : List (Option (Option FD))}
theorem Outs.append (h : Outs w xs os) (h' : Outs w ys us) : Outs w (xs ++ ys) (os ++ us) := by
 induction h with
 | nil => exact h'
 | cons a b _ ih => exact .cons a b ih
theorem Outs.len (h : Outs w xs os) : os.length = xs.length /\ ∀ x ∈ xs, x.length <= 999999 := by
 induction h with
 | nil => exact ⟨rfl, fun x hx => nomatch hx⟩
 | cons _ b _ ih => exact ⟨congrArg Nat.succ ih.1, fun x hx => by rcases zC.mp hx with rfl | hx; exact b; exact ih.2 x hx⟩
theorem Outs.at (h : Outs w xs os) : ∀ (i : Nat) (x : Str) (o : Option (Option FD)), xs[i]? = some x -> os[i]? = some o -> LineOut w (stripped x) o := by
 induction h with
 | nil => intro i x o h; simp at h
 | cons a _ _ ih =>
  intro i x o h1 h2
  cases i with
  | zero => rw [<- Option.some.inj (show some _ = some x from h1), <- Option.some.inj (show some _ = some o from h2)]; exact a
  | succ i => exact ih i x o (by simpa using h1) (by simpa using h2)
theorem Outs.quiet (h : ∀ x ∈ xs, (stripped x).length = 0 /\ x.length <= 999999) : Outs w xs (xs.map fun _ => none) := by
 induction xs with
 | nil => exact .nil
 | cons x xs ih => exact .cons (.skip (h x (.head _)).1) (h x (.head _)).2 (ih fun y hy => h y (.tail _ hy))
theorem SameD.append {ys zs ys' zs' : List (Option FD)} (h : SameD ys zs) (h' : SameD ys' zs') : SameD (ys ++ ys') (zs ++ zs') := by
 induction h with
 | nil => exact h'
 | bad _ ih => exact .bad ih
 | good a b c _ ih => exact .good a b c ih
end
theorem quiet_none {A B : Type} (l : List A) : (l.map fun _ => (none : Option (Option B))).filterMap id = [] := by
 induction l with
 | nil => rfl
 | cons _ l ih => exact ih
theorem stream_ok (w : World) : StreamOk w := fun nums q _ => by
 suffices h : ∃ os, Outs w (linesOf nums q) os /\ SameD (os.filterMap id) (wantedOf nums q) by
  obtain ⟨os, h1, h2⟩ := h
  exact ⟨os, h1.len.1, h1.len.2, h1.at, h2⟩
 induction q with
 | zero => exact ⟨[], .nil, .nil⟩
 | succ q ih =>
  obtain ⟨os, h1, h2⟩ := ih (by omega)
  have hk := kOf_lt (qn nums q 0)
  have hV : ValOk2 (kOf (qn nums q 0)) (vAt nums q) := val_ok _ _ _ _
  have hs := whenOf_small (qn nums q 3)
  have hq := Outs.quiet (w := w) (quiet_skip (n2 := qn nums q 2) (turn2_ok hk hV hs).tz)
  rw [linesOf_succ, wantedOf_succ]
  cases hl : (lineAt nums q).2 with
  | none =>
   obtain ⟨ho, hz⟩ := out_none (w := w) hk hV hs hl
   refine ⟨_, h1.append (.cons ho (Nat.le_trans hz (by decide)) hq), ?_⟩
   rw [List.filterMap_append]
   refine h2.append ?_
   show SameD (none :: List.filterMap id _) [wantAt nums q]
   rw [quiet_none, wantAt, hl]
   exact .bad .nil
  | some rs =>
   have G := line_good hk hV hs hl
   obtain ⟨D, ho, hd, hn, he⟩ := out_good (w := w) hk hV hs G
   refine ⟨_, h1.append (.cons ho (Nat.le_trans G.len (by decide)) hq), ?_⟩
   rw [List.filterMap_append]
   refine h2.append ?_
   show SameD (some D :: List.filterMap id _) [wantAt nums q]
   rw [quiet_none, wantAt, hl, fAt, fld_eq hk hV, shown_eq hk hV]
   exact .good hd hn he .nil
theorem top : rW.Holds := by
 refine holds_law (by decide +kernel) fun said => ?_
 refine Mine.PySem.W.holds_open (q := vw) (loose := looseL) (Xt := fun s => xlAt vw [] s && recOk (RowW.records rr) s) (XP := XL vw []) (Yf := Hook.obs hk) (Ya := Hook.val hk) (YP := Hook.says hk) (N := 9946) left_all (Hook.of _) (Hook.keeps _) (fun s e => xl_of s (Bool.and_eq_true_iff.mp e).1) XL.keeps (by rfl) (by rfl) (by rfl) (fun s e => recFacts_of (Bool.and_eq_true_iff.mp e).2) (by rfl) (by first | assumption | decide +kernel) (by decide +kernel) ⟨rfl, rfl, rfl, rfl, rfl, by decide +kernel⟩ ?hw ?hc
 case hw => w_witness2
 case hc => exact law_walk turn_ok stream_ok rfl
end Mine
theorem PySem.Challenge.cw_ae0015_01_holds : PySem.Challenge.rw_ae0015_01.Holds :=
  Mine.top
