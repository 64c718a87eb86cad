/- The four passes of the transforms as plain functions, wraps and all (printed by wip/tools/dct.py). -/
import Derived.RowKit
namespace Go.Proofs.YtghjlekdibcjdaaGreatDoor
open Go.RowKit
/-- The two results of dctBox. -/
def box0 (x0 x1 kc ks : Int) : Int := wrap32 (wrap32 (kc * wrap32 (x0 + x1)) + wrap32 (wrap32 (ks - kc) * x1))
def box1 (x0 x1 kc ks : Int) : Int := wrap32 (wrap32 (kc * wrap32 (x0 + x1)) - wrap32 (wrap32 (kc + ks) * x0))
def fcol0 (x0 x1 x2 x3 x4 x5 x6 x7 : Int) : Int := wrap32 ((wrap32 ((wrap32 ((wrap32 ((wrap32 (x0 + x7)) + (wrap32 (x3 + x4)))) + (wrap32 ((wrap32 (x1 + x6)) + (wrap32 (x2 + x5)))))) - 1024)) * 262144)
def fcol1 (x0 x1 x2 x3 x4 x5 x6 x7 : Int) : Int := wrap32 ((wrap32 ((box1 (wrap32 (x3 - x4)) (wrap32 (x0 - x7)) 217965 145639) + (box0 (wrap32 (x2 - x5)) (wrap32 (x1 - x6)) 257107 51142))) + (wrap32 ((box0 (wrap32 (x3 - x4)) (wrap32 (x0 - x7)) 217965 145639) + (box1 (wrap32 (x2 - x5)) (wrap32 (x1 - x6)) 257107 51142))))
def fcol2 (x0 x1 x2 x3 x4 x5 x6 x7 : Int) : Int := box0 (wrap32 ((wrap32 (x1 + x6)) - (wrap32 (x2 + x5)))) (wrap32 ((wrap32 (x0 + x7)) - (wrap32 (x3 + x4)))) 141871 342508
def fcol3 (x0 x1 x2 x3 x4 x5 x6 x7 : Int) : Int := wrap32 (((wrap32 ((box1 (wrap32 (x3 - x4)) (wrap32 (x0 - x7)) 217965 145639) - (box0 (wrap32 (x2 - x5)) (wrap32 (x1 - x6)) 257107 51142))) / 4096) * 5793)
def fcol4 (x0 x1 x2 x3 x4 x5 x6 x7 : Int) : Int := wrap32 ((wrap32 ((wrap32 ((wrap32 (x0 + x7)) + (wrap32 (x3 + x4)))) - (wrap32 ((wrap32 (x1 + x6)) + (wrap32 (x2 + x5)))))) * 262144)
def fcol5 (x0 x1 x2 x3 x4 x5 x6 x7 : Int) : Int := wrap32 (((wrap32 ((box0 (wrap32 (x3 - x4)) (wrap32 (x0 - x7)) 217965 145639) - (box1 (wrap32 (x2 - x5)) (wrap32 (x1 - x6)) 257107 51142))) / 4096) * 5793)
def fcol6 (x0 x1 x2 x3 x4 x5 x6 x7 : Int) : Int := box1 (wrap32 ((wrap32 (x1 + x6)) - (wrap32 (x2 + x5)))) (wrap32 ((wrap32 (x0 + x7)) - (wrap32 (x3 + x4)))) 141871 342508
def fcol7 (x0 x1 x2 x3 x4 x5 x6 x7 : Int) : Int := wrap32 ((wrap32 ((box1 (wrap32 (x3 - x4)) (wrap32 (x0 - x7)) 217965 145639) + (box0 (wrap32 (x2 - x5)) (wrap32 (x1 - x6)) 257107 51142))) - (wrap32 ((box0 (wrap32 (x3 - x4)) (wrap32 (x0 - x7)) 217965 145639) + (box1 (wrap32 (x2 - x5)) (wrap32 (x1 - x6)) 257107 51142))))
/-- The k-th number that the pass makes of eight. -/
def fcol (k : Nat) (x0 x1 x2 x3 x4 x5 x6 x7 : Int) : Int :=
  match k with
  | 0 => fcol0 x0 x1 x2 x3 x4 x5 x6 x7
  | 1 => fcol1 x0 x1 x2 x3 x4 x5 x6 x7
  | 2 => fcol2 x0 x1 x2 x3 x4 x5 x6 x7
  | 3 => fcol3 x0 x1 x2 x3 x4 x5 x6 x7
  | 4 => fcol4 x0 x1 x2 x3 x4 x5 x6 x7
  | 5 => fcol5 x0 x1 x2 x3 x4 x5 x6 x7
  | 6 => fcol6 x0 x1 x2 x3 x4 x5 x6 x7
  | _ => fcol7 x0 x1 x2 x3 x4 x5 x6 x7
def fcols (f : Nat → Int) : Nat → Int := fun j => fcol (j / 8) (f (j % 8)) (f (8 + j % 8)) (f (16 + j % 8)) (f (24 + j % 8)) (f (32 + j % 8)) (f (40 + j % 8)) (f (48 + j % 8)) (f (56 + j % 8))
def frow0 (x0 x1 x2 x3 x4 x5 x6 x7 : Int) : Int := ((wrap32 ((wrap32 ((wrap32 ((wrap32 (x0 + x7)) + (wrap32 (x3 + x4)))) + (wrap32 ((wrap32 (x1 + x6)) + (wrap32 (x2 + x5)))))) + 131072)) / 262144)
def frow1 (x0 x1 x2 x3 x4 x5 x6 x7 : Int) : Int := ((wrap32 ((wrap32 ((wrap32 ((box1 ((wrap32 (x3 - x4)) / 16384) ((wrap32 (x0 - x7)) / 16384) 13623 9102) + (box0 ((wrap32 (x2 - x5)) / 16384) ((wrap32 (x1 - x6)) / 16384) 16069 3196))) + (wrap32 ((box0 ((wrap32 (x3 - x4)) / 16384) ((wrap32 (x0 - x7)) / 16384) 13623 9102) + (box1 ((wrap32 (x2 - x5)) / 16384) ((wrap32 (x1 - x6)) / 16384) 16069 3196))))) + 131072)) / 262144)
def frow2 (x0 x1 x2 x3 x4 x5 x6 x7 : Int) : Int := ((wrap32 ((box0 ((wrap32 ((wrap32 (x1 + x6)) - (wrap32 (x2 + x5)))) / 16384) ((wrap32 ((wrap32 (x0 + x7)) - (wrap32 (x3 + x4)))) / 16384) 8867 21407) + 131072)) / 262144)
def frow3 (x0 x1 x2 x3 x4 x5 x6 x7 : Int) : Int := ((wrap32 ((wrap32 (((wrap32 ((box1 ((wrap32 (x3 - x4)) / 16384) ((wrap32 (x0 - x7)) / 16384) 13623 9102) - (box0 ((wrap32 (x2 - x5)) / 16384) ((wrap32 (x1 - x6)) / 16384) 16069 3196))) / 16384) * 23170)) + 131072)) / 262144)
def frow4 (x0 x1 x2 x3 x4 x5 x6 x7 : Int) : Int := ((wrap32 ((wrap32 ((wrap32 ((wrap32 (x0 + x7)) + (wrap32 (x3 + x4)))) - (wrap32 ((wrap32 (x1 + x6)) + (wrap32 (x2 + x5)))))) + 131072)) / 262144)
def frow5 (x0 x1 x2 x3 x4 x5 x6 x7 : Int) : Int := ((wrap32 ((wrap32 (((wrap32 ((box0 ((wrap32 (x3 - x4)) / 16384) ((wrap32 (x0 - x7)) / 16384) 13623 9102) - (box1 ((wrap32 (x2 - x5)) / 16384) ((wrap32 (x1 - x6)) / 16384) 16069 3196))) / 16384) * 23170)) + 131072)) / 262144)
def frow6 (x0 x1 x2 x3 x4 x5 x6 x7 : Int) : Int := ((wrap32 ((box1 ((wrap32 ((wrap32 (x1 + x6)) - (wrap32 (x2 + x5)))) / 16384) ((wrap32 ((wrap32 (x0 + x7)) - (wrap32 (x3 + x4)))) / 16384) 8867 21407) + 131072)) / 262144)
def frow7 (x0 x1 x2 x3 x4 x5 x6 x7 : Int) : Int := ((wrap32 ((wrap32 ((wrap32 ((box1 ((wrap32 (x3 - x4)) / 16384) ((wrap32 (x0 - x7)) / 16384) 13623 9102) + (box0 ((wrap32 (x2 - x5)) / 16384) ((wrap32 (x1 - x6)) / 16384) 16069 3196))) - (wrap32 ((box0 ((wrap32 (x3 - x4)) / 16384) ((wrap32 (x0 - x7)) / 16384) 13623 9102) + (box1 ((wrap32 (x2 - x5)) / 16384) ((wrap32 (x1 - x6)) / 16384) 16069 3196))))) + 131072)) / 262144)
/-- The k-th number that the pass makes of eight. -/
def frow (k : Nat) (x0 x1 x2 x3 x4 x5 x6 x7 : Int) : Int :=
  match k with
  | 0 => frow0 x0 x1 x2 x3 x4 x5 x6 x7
  | 1 => frow1 x0 x1 x2 x3 x4 x5 x6 x7
  | 2 => frow2 x0 x1 x2 x3 x4 x5 x6 x7
  | 3 => frow3 x0 x1 x2 x3 x4 x5 x6 x7
  | 4 => frow4 x0 x1 x2 x3 x4 x5 x6 x7
  | 5 => frow5 x0 x1 x2 x3 x4 x5 x6 x7
  | 6 => frow6 x0 x1 x2 x3 x4 x5 x6 x7
  | _ => frow7 x0 x1 x2 x3 x4 x5 x6 x7
def frows (f : Nat → Int) : Nat → Int := fun j => frow (j % 8) (f (8 * (j / 8))) (f (8 * (j / 8) + 1)) (f (8 * (j / 8) + 2)) (f (8 * (j / 8) + 3)) (f (8 * (j / 8) + 4)) (f (8 * (j / 8) + 5)) (f (8 * (j / 8) + 6)) (f (8 * (j / 8) + 7))
def irow0 (x0 x1 x2 x3 x4 x5 x6 x7 : Int) : Int := wrap32 ((wrap32 ((wrap32 ((wrap32 (x0 * 131072)) + (wrap32 (x4 * 131072)))) + (box1 x2 x6 70936 (-171254)))) + (box1 ((wrap32 ((wrap32 ((wrap32 (x1 * 128)) - (wrap32 (x7 * 128)))) + (wrap32 (x5 * 181)))) / 4) ((wrap32 ((wrap32 ((wrap32 (x1 * 128)) + (wrap32 (x7 * 128)))) + (wrap32 (x3 * 181)))) / 4) 3406 (-2276)))
def irow1 (x0 x1 x2 x3 x4 x5 x6 x7 : Int) : Int := wrap32 ((wrap32 ((wrap32 ((wrap32 (x0 * 131072)) - (wrap32 (x4 * 131072)))) + (box0 x2 x6 70936 (-171254)))) + (box1 ((wrap32 ((wrap32 ((wrap32 (x1 * 128)) + (wrap32 (x7 * 128)))) - (wrap32 (x3 * 181)))) / 4) ((wrap32 ((wrap32 ((wrap32 (x1 * 128)) - (wrap32 (x7 * 128)))) - (wrap32 (x5 * 181)))) / 4) 4017 (-799)))
def irow2 (x0 x1 x2 x3 x4 x5 x6 x7 : Int) : Int := wrap32 ((wrap32 ((wrap32 ((wrap32 (x0 * 131072)) - (wrap32 (x4 * 131072)))) - (box0 x2 x6 70936 (-171254)))) + (box0 ((wrap32 ((wrap32 ((wrap32 (x1 * 128)) + (wrap32 (x7 * 128)))) - (wrap32 (x3 * 181)))) / 4) ((wrap32 ((wrap32 ((wrap32 (x1 * 128)) - (wrap32 (x7 * 128)))) - (wrap32 (x5 * 181)))) / 4) 4017 (-799)))
def irow3 (x0 x1 x2 x3 x4 x5 x6 x7 : Int) : Int := wrap32 ((wrap32 ((wrap32 ((wrap32 (x0 * 131072)) + (wrap32 (x4 * 131072)))) - (box1 x2 x6 70936 (-171254)))) + (box0 ((wrap32 ((wrap32 ((wrap32 (x1 * 128)) - (wrap32 (x7 * 128)))) + (wrap32 (x5 * 181)))) / 4) ((wrap32 ((wrap32 ((wrap32 (x1 * 128)) + (wrap32 (x7 * 128)))) + (wrap32 (x3 * 181)))) / 4) 3406 (-2276)))
def irow4 (x0 x1 x2 x3 x4 x5 x6 x7 : Int) : Int := wrap32 ((wrap32 ((wrap32 ((wrap32 (x0 * 131072)) + (wrap32 (x4 * 131072)))) - (box1 x2 x6 70936 (-171254)))) - (box0 ((wrap32 ((wrap32 ((wrap32 (x1 * 128)) - (wrap32 (x7 * 128)))) + (wrap32 (x5 * 181)))) / 4) ((wrap32 ((wrap32 ((wrap32 (x1 * 128)) + (wrap32 (x7 * 128)))) + (wrap32 (x3 * 181)))) / 4) 3406 (-2276)))
def irow5 (x0 x1 x2 x3 x4 x5 x6 x7 : Int) : Int := wrap32 ((wrap32 ((wrap32 ((wrap32 (x0 * 131072)) - (wrap32 (x4 * 131072)))) - (box0 x2 x6 70936 (-171254)))) - (box0 ((wrap32 ((wrap32 ((wrap32 (x1 * 128)) + (wrap32 (x7 * 128)))) - (wrap32 (x3 * 181)))) / 4) ((wrap32 ((wrap32 ((wrap32 (x1 * 128)) - (wrap32 (x7 * 128)))) - (wrap32 (x5 * 181)))) / 4) 4017 (-799)))
def irow6 (x0 x1 x2 x3 x4 x5 x6 x7 : Int) : Int := wrap32 ((wrap32 ((wrap32 ((wrap32 (x0 * 131072)) - (wrap32 (x4 * 131072)))) + (box0 x2 x6 70936 (-171254)))) - (box1 ((wrap32 ((wrap32 ((wrap32 (x1 * 128)) + (wrap32 (x7 * 128)))) - (wrap32 (x3 * 181)))) / 4) ((wrap32 ((wrap32 ((wrap32 (x1 * 128)) - (wrap32 (x7 * 128)))) - (wrap32 (x5 * 181)))) / 4) 4017 (-799)))
def irow7 (x0 x1 x2 x3 x4 x5 x6 x7 : Int) : Int := wrap32 ((wrap32 ((wrap32 ((wrap32 (x0 * 131072)) + (wrap32 (x4 * 131072)))) + (box1 x2 x6 70936 (-171254)))) - (box1 ((wrap32 ((wrap32 ((wrap32 (x1 * 128)) - (wrap32 (x7 * 128)))) + (wrap32 (x5 * 181)))) / 4) ((wrap32 ((wrap32 ((wrap32 (x1 * 128)) + (wrap32 (x7 * 128)))) + (wrap32 (x3 * 181)))) / 4) 3406 (-2276)))
/-- The k-th number that the pass makes of eight. -/
def irow (k : Nat) (x0 x1 x2 x3 x4 x5 x6 x7 : Int) : Int :=
  match k with
  | 0 => irow0 x0 x1 x2 x3 x4 x5 x6 x7
  | 1 => irow1 x0 x1 x2 x3 x4 x5 x6 x7
  | 2 => irow2 x0 x1 x2 x3 x4 x5 x6 x7
  | 3 => irow3 x0 x1 x2 x3 x4 x5 x6 x7
  | 4 => irow4 x0 x1 x2 x3 x4 x5 x6 x7
  | 5 => irow5 x0 x1 x2 x3 x4 x5 x6 x7
  | 6 => irow6 x0 x1 x2 x3 x4 x5 x6 x7
  | _ => irow7 x0 x1 x2 x3 x4 x5 x6 x7
def irows (f : Nat → Int) : Nat → Int := fun j => irow (j % 8) (f (8 * (j / 8))) (f (8 * (j / 8) + 1)) (f (8 * (j / 8) + 2)) (f (8 * (j / 8) + 3)) (f (8 * (j / 8) + 4)) (f (8 * (j / 8) + 5)) (f (8 * (j / 8) + 6)) (f (8 * (j / 8) + 7))
def icol0 (x0 x1 x2 x3 x4 x5 x6 x7 : Int) : Int := ((wrap32 ((wrap32 (((wrap32 ((wrap32 (x0 + 524288)) + x4)) / 4) + (box1 (x2 / 8192) (x6 / 8192) 1108 (-2676)))) + (box1 ((wrap32 ((wrap32 (x1 - x7)) + (wrap32 ((x5 / 8192) * 11585)))) / 16384) ((wrap32 ((wrap32 (x1 + x7)) + (wrap32 ((x3 / 8192) * 11585)))) / 16384) 3406 (-2276)))) / 262144)
def icol1 (x0 x1 x2 x3 x4 x5 x6 x7 : Int) : Int := ((wrap32 ((wrap32 (((wrap32 ((wrap32 (x0 + 524288)) - x4)) / 4) + (box0 (x2 / 8192) (x6 / 8192) 1108 (-2676)))) + (box1 ((wrap32 ((wrap32 (x1 + x7)) - (wrap32 ((x3 / 8192) * 11585)))) / 16384) ((wrap32 ((wrap32 (x1 - x7)) - (wrap32 ((x5 / 8192) * 11585)))) / 16384) 4017 (-799)))) / 262144)
def icol2 (x0 x1 x2 x3 x4 x5 x6 x7 : Int) : Int := ((wrap32 ((wrap32 (((wrap32 ((wrap32 (x0 + 524288)) - x4)) / 4) - (box0 (x2 / 8192) (x6 / 8192) 1108 (-2676)))) + (box0 ((wrap32 ((wrap32 (x1 + x7)) - (wrap32 ((x3 / 8192) * 11585)))) / 16384) ((wrap32 ((wrap32 (x1 - x7)) - (wrap32 ((x5 / 8192) * 11585)))) / 16384) 4017 (-799)))) / 262144)
def icol3 (x0 x1 x2 x3 x4 x5 x6 x7 : Int) : Int := ((wrap32 ((wrap32 (((wrap32 ((wrap32 (x0 + 524288)) + x4)) / 4) - (box1 (x2 / 8192) (x6 / 8192) 1108 (-2676)))) + (box0 ((wrap32 ((wrap32 (x1 - x7)) + (wrap32 ((x5 / 8192) * 11585)))) / 16384) ((wrap32 ((wrap32 (x1 + x7)) + (wrap32 ((x3 / 8192) * 11585)))) / 16384) 3406 (-2276)))) / 262144)
def icol4 (x0 x1 x2 x3 x4 x5 x6 x7 : Int) : Int := ((wrap32 ((wrap32 (((wrap32 ((wrap32 (x0 + 524288)) + x4)) / 4) - (box1 (x2 / 8192) (x6 / 8192) 1108 (-2676)))) - (box0 ((wrap32 ((wrap32 (x1 - x7)) + (wrap32 ((x5 / 8192) * 11585)))) / 16384) ((wrap32 ((wrap32 (x1 + x7)) + (wrap32 ((x3 / 8192) * 11585)))) / 16384) 3406 (-2276)))) / 262144)
def icol5 (x0 x1 x2 x3 x4 x5 x6 x7 : Int) : Int := ((wrap32 ((wrap32 (((wrap32 ((wrap32 (x0 + 524288)) - x4)) / 4) - (box0 (x2 / 8192) (x6 / 8192) 1108 (-2676)))) - (box0 ((wrap32 ((wrap32 (x1 + x7)) - (wrap32 ((x3 / 8192) * 11585)))) / 16384) ((wrap32 ((wrap32 (x1 - x7)) - (wrap32 ((x5 / 8192) * 11585)))) / 16384) 4017 (-799)))) / 262144)
def icol6 (x0 x1 x2 x3 x4 x5 x6 x7 : Int) : Int := ((wrap32 ((wrap32 (((wrap32 ((wrap32 (x0 + 524288)) - x4)) / 4) + (box0 (x2 / 8192) (x6 / 8192) 1108 (-2676)))) - (box1 ((wrap32 ((wrap32 (x1 + x7)) - (wrap32 ((x3 / 8192) * 11585)))) / 16384) ((wrap32 ((wrap32 (x1 - x7)) - (wrap32 ((x5 / 8192) * 11585)))) / 16384) 4017 (-799)))) / 262144)
def icol7 (x0 x1 x2 x3 x4 x5 x6 x7 : Int) : Int := ((wrap32 ((wrap32 (((wrap32 ((wrap32 (x0 + 524288)) + x4)) / 4) + (box1 (x2 / 8192) (x6 / 8192) 1108 (-2676)))) - (box1 ((wrap32 ((wrap32 (x1 - x7)) + (wrap32 ((x5 / 8192) * 11585)))) / 16384) ((wrap32 ((wrap32 (x1 + x7)) + (wrap32 ((x3 / 8192) * 11585)))) / 16384) 3406 (-2276)))) / 262144)
/-- The k-th number that the pass makes of eight. -/
def icol (k : Nat) (x0 x1 x2 x3 x4 x5 x6 x7 : Int) : Int :=
  match k with
  | 0 => icol0 x0 x1 x2 x3 x4 x5 x6 x7
  | 1 => icol1 x0 x1 x2 x3 x4 x5 x6 x7
  | 2 => icol2 x0 x1 x2 x3 x4 x5 x6 x7
  | 3 => icol3 x0 x1 x2 x3 x4 x5 x6 x7
  | 4 => icol4 x0 x1 x2 x3 x4 x5 x6 x7
  | 5 => icol5 x0 x1 x2 x3 x4 x5 x6 x7
  | 6 => icol6 x0 x1 x2 x3 x4 x5 x6 x7
  | _ => icol7 x0 x1 x2 x3 x4 x5 x6 x7
def icols (f : Nat → Int) : Nat → Int := fun j => icol (j / 8) (f (j % 8)) (f (8 + j % 8)) (f (16 + j % 8)) (f (24 + j % 8)) (f (32 + j % 8)) (f (40 + j % 8)) (f (48 + j % 8)) (f (56 + j % 8))
end Go.Proofs.YtghjlekdibcjdaaGreatDoor
